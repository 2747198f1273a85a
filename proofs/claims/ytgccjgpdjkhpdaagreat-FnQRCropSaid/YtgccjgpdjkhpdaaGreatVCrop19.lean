import Derived.Test.YtgccjgpdjkhpdaaGreatVCrop14
import Derived.Test.YtgccjgpdjkhpdaaGreatVCrop18
import Derived.Test.YtgccjgpdjkhpdaaGreatVCrop20
import Derived.Test.YtgccjgpdjkhpdaaGreatVCrop21
/-! Own texts of this claim, part 19. -/
namespace Go.Proofs.YtgccjgpdjkhpdaaGreat.B
open Go.RowKit Go.Proofs.YtgccjgpdjkhpdaaGreatW.PrintWords Go.Proofs.YtgccjgpdjkhpdaaGreatW.PrintLast Go.Proofs.YtgccjgpdjkhpdaaGreatW.PrintMore
set_option linter.unusedVariables false
set_option linter.unusedSimpArgs false
theorem info118:(Tryz.prog.info? 118).map (fun i=>(i.zero,i.size,i.bytes))=some (some (.agg #[.int .i64 0,.int .i64 0]),2,16):=by kernel_rfl
def wayCells (xs:List (Nat×Nat)):List Value:=xs.flatMap fun p=>[.int .i64 (p.1:Int),.int .i64 (p.2:Int)]
theorem wayCells_snoc (xs:List (Nat×Nat))(p:Nat×Nat):wayCells (xs++[p])=wayCells xs++[.int .i64 (p.1:Int),.int .i64 (p.2:Int)]:=by
 unfold wayCells
 rw [List.flatMap_append]
 simp
theorem dim46 (w:World)(v:Nat)(hv:1<=v/\v<=40):Calls Tryz.prog 46 #[.int .i64 (v:Int)] w fun e w'=>e=.returned (.int .i64 ((17+4*v:Nat):Int))/\Below w.heap.size w w':=by
 have h:=dim_f (v:Int) (by omega)
 refine (F.spec_QRDimension.calls v _ w h).mono ?_
 rintro e w' ⟨rfl,hb⟩
 exact⟨rfl,hb.below⟩
def wpair (g:Nat->Nat->Bool)(rt r j:Nat):List (Nat×Nat):=([(r,rt),(r,rt-1)].take j).filter fun p=>!g p.2 p.1
theorem wpair_two (g:Nat->Nat->Bool)(rt r:Nat):wpair g rt r 2=pairAt g rt r:=rfl
theorem wpair_yes (g:Nat->Nat->Bool)(rt r j:Nat)(hj:j<2)(h:g (rt-j) r=false):wpair g rt r (j+1)=wpair g rt r j++[(r,rt-j)]:=by
 unfold wpair
 match j,hj with
 | 0,_=>simp at h;simp [h]
 | 1,_=>simp only [List.take_succ_cons,List.take_zero,List.filter_cons,List.filter_nil,h];cases g rt r<;>rfl
theorem wpair_no (g:Nat->Nat->Bool)(rt r j:Nat)(hj:j<2)(h:g (rt-j) r=true):wpair g rt r (j+1)=wpair g rt r j:=by
 unfold wpair
 match j,hj with
 | 0,_=>simp at h;simp [h]
 | 1,_=>simp only [List.take_succ_cons,List.take_zero,List.filter_cons,List.filter_nil,h];cases g rt r<;>rfl
set_option maxHeartbeats 4000000 in
set_option maxRecDepth 8000 in
theorem way64 (w:World)(v:Nat)(hv:1<=v/\v<=40) :
  Calls Tryz.prog 64 #[.int .i64 (v:Int)] w fun e w'=>∃ A m c,e=.returned (.slice A m c)/\m=(way (17+4*v) (fpB v (ctrs v))).length/\w'.ownsRow w.heap.size 118 2 (.slice A m c) m (wayCells (way (17+4*v) (fpB v (ctrs v))))/\Below w.heap.size w w':=by
 have kd:=dim46 w v hv
 obtain⟨kk,hkk⟩:=(givenRows v hv).rounds
 have KG:=Aside0.mk (fun W=>F.spec_QRGiven.calls kk v _ W hkk)
 obtain⟨n,hn⟩:∃ n,17+4*v=n:=⟨_,rfl⟩
 rw [hn] at kd KG ⊢
 have hn2:n<=177:=by omega
 have hn1:21<=n:=by omega
 obtain⟨gp,hgp⟩:∃ gp,fpB v (ctrs v)=gp:=⟨_,rfl⟩
 rw [hgp] at KG ⊢
 clear hgp hkk hn hv
 go_enter Tryz.func64,Tryz.ntmps64
 go_wp2_with (first | (go_at_call 46;refine kd.mono ?_;rintro e0 w1 ⟨rfl,hb1⟩;have HB1:=Aside0.mk hb1;clear hb1) | (go_at_call 121;refine (KG.out _).mono ?_;rintro e0 w2 ⟨v0,rfl,hS,hb2⟩;obtain⟨gg,cg,q,cp,rfl,hcg,hbr⟩:=rows_open hS (by omega);have HBR:=Aside0.mk hbr;have HB2:=Aside0.mk (HB1.out.trans (hb2.mono HB1.out.size));clear hbr hb2 hS))
 clear kd
 have HW2:=Aside0.mk HB2.out.size
 go_loopw [5,6,7] (fun vo vu vr wr=>∃ (k right m cm:Nat) (A:Option Addr) (up:Bool) (rI:Int) (xs:List (Nat×Nat)),vo=.slice A m cm/\vu=.bool up/\vr=.int .i64 rI/\(right=0\/rI=(right:Int))/\-1<=rI/\rI<=(right:Int)/\right<=k/\right<n/\m+400*right<=80000/\Aside0 (xs++wayF n gp k right up=way n gp)/\Aside0 (m=xs.length)/\Aside0 (wr.ownsRow w2.heap.size 118 2 (.slice A m cm) m (wayCells xs))/\Aside0 (Below w2.heap.size w2 wr)) (fun _ _ vr _=>(intOf vr+1).toNat)
 case atStart=>exact⟨n,n-1,0,0,none,true,(n:Int)-1,[],rfl,rfl,rfl,by omega,by omega,by omega,by omega,by omega,by omega,⟨rfl⟩,⟨rfl⟩,⟨⟨rfl,.inl ⟨rfl,rfl⟩⟩⟩,⟨Below.refl _ _⟩⟩
 case round=>
  obtain⟨k,right,m,cm,A,up,rI,xs,rfl,rfl,rfl,hor,hr1,hr2,hrk,hrn,hmr,HX,HM,HO,HB⟩:=hrel
  by_cases hr0:right=0
  ·have hneg:¬ rI>0:=by omega
   have HE:=Aside0.mk (show xs=way n gp by
    have h1:=HX.out
    subst hr0
    cases k with
    | zero=>rw [wayF,List.append_nil] at h1;exact h1
    | succ k=>rw [wayF,if_pos rfl,List.append_nil] at h1;exact h1)
   clear hor hr1 hr2 hrk hr0 hmr hrn
   go_wp2
   go_ret
   refine⟨A,m,cm,rfl,by rw [HM.out,HE.out],?_,HB2.out.trans (HB.out.mono HW2.out)⟩
   rw [<- HE.out]
   exact own_mono HO.out HW2.out
  ·have hri:rI=(right:Int):=by omega
   subst hri
   obtain⟨k,rfl⟩:∃ k',k=k'+1:=⟨k-1,by omega⟩
   have hrp:(right:Int)>0:=by omega
   by_cases h6:right=6
   ·subst h6
    have HFX:=Aside0.mk (show fixR 6=5 by unfold fixR;rfl)
    have HX2:=Aside0.mk (show xs++(colPair n gp 5 up n++wayF n gp k (5-2) (!up))=way n gp by
     have h1:=HX.out
     rw [wayF,if_neg hr0,HFX.out] at h1
     exact h1)
    have HRP:=Aside0.mk (show 1<=5 by omega)
    clear hor hr1 hr2 HX hr0
    go_wp2
    clear hrp
    go_loopw [5,8] (fun vo vi wr=>∃ (i m' cm:Nat) (A:Option Addr),vi=.int .i64 (i:Int)/\vo=.slice A m' cm/\i<=n/\m'<=m+2*i/\Aside0 (m'=(xs++colPair n gp 5 up i).length)/\Aside0 (wr.ownsRow w2.heap.size 118 2 (.slice A m' cm) m' (wayCells (xs++colPair n gp 5 up i)))/\Aside0 (Below w2.heap.size w2 wr)) (fun _ vi _=>(n-intOf vi).toNat)
    case atStart=>exact⟨0,m,cm,A,rfl,rfl,by omega,by omega,⟨by rw [colPair,List.append_nil];exact HM.out⟩,⟨by rw [colPair,List.append_nil];exact HO.out⟩,HB⟩
    case round=>
     clear HM HO HB
     obtain⟨i,m1,cm,A,rfl,rfl,hi,hm1,HM,HO,HB⟩:=hrel
     by_cases hin:i<n
     ·obtain⟨r,hr⟩:∃ r,rowAt n up i=r:=⟨_,rfl⟩
      have hrn2:r<n:=by rw [<- hr];exact rowAt_lt n up i hin
      have hri2:(n:Int)-1-(i:Int)=(r:Int)\/up=false:=by
       rw [<- hr];unfold rowAt
       cases up with
       | false=>exact .inr rfl
       | true=>left;rw [if_pos rfl];omega
      have hri3:up=false->i=r:=fun h=>by rw [<- hr,h];rfl
      have HCN:=Aside0.mk (show xs++colPair n gp 5 up (i+1)=xs++colPair n gp 5 up i++wpair gp 5 r 2 by rw [colPair,hr,wpair_two,List.append_assoc])
      obtain⟨ys,hys⟩:∃ ys,xs++colPair n gp 5 up i=ys:=⟨_,rfl⟩
      rw [hys] at HM HO HCN
      have HM0:=Aside0.mk (show m1=(ys++wpair gp 5 r 0).length by unfold wpair;simpa using HM.out)
      have HO0:=Aside0.mk (show wr.ownsRow w2.heap.size 118 2 (.slice A m1 cm) m1 (wayCells (ys++wpair gp 5 r 0)) by
       have:ys++wpair gp 5 r 0=ys:=by unfold wpair;simp
       rw [this];exact HO.out)
      clear hr hys HM HO
      cases up with
      | true=>
       have hri:=hri2.resolve_right (by decide)
       clear hri2 hri3
       go_wp2
       go_loopw [5,10] (fun vo vc wr=>∃ (j m' cm:Nat) (A:Option Addr),j<=2/\vc=.int .i64 ((5:Int)-(j:Int))/\vo=.slice A m' cm/\m'<=m1+j/\Aside0 (m'=(ys++wpair gp 5 r j).length)/\Aside0 (wr.ownsRow w2.heap.size 118 2 (.slice A m' cm) m' (wayCells (ys++wpair gp 5 r j)))/\Aside0 (Below w2.heap.size w2 wr)) (fun _ vc _=>(intOf vc+2).toNat)
       case atStart=>exact⟨0,m1,cm,A,by omega,by go_num,rfl,by omega,HM0,HO0,HB⟩
       case round=>
        clear HM0 HO0 HB
        obtain⟨j,m2,cm,A,hj,rfl,rfl,hm2,HM,HO,HB⟩:=hrel
        by_cases hj2:j<2
        ·obtain⟨x,hx⟩:∃ x:Nat,5-j=x:=⟨_,rfl⟩
         have hxi:(5:Int)-(j:Int)=(x:Int):=by have:=HRP.out;omega
         have hxn:x<n:=by omega
         have hge:(5:Int)-(1:Int)<=(x:Int):=by omega
         obtain⟨R1,_,hcq,_,R2⟩:=(HBR.out.below HB.out (Nat.le_refl _)).row r hrn2
         have r2:=R2 x hxn
         obtain⟨qr,hqr⟩:∃ qr,q r=qr:=⟨_,rfl⟩
         rw [hqr] at R1 r2
         obtain⟨cr,hcr⟩:∃ cr,cp r=cr:=⟨_,rfl⟩
         rw [hcr] at R1
         have hpy:=wpair_yes gp 5 r j hj2
         have hpn:=wpair_no gp 5 r j hj2
         rw [hx] at hpy hpn
         obtain⟨b,hb⟩:∃ b,gp x r=b:=⟨_,rfl⟩
         rw [hb] at r2 hpy hpn
         rw [hxi]
         have HXI:=Aside0.mk hxi
         have hj3:(j:Int)<2:=by omega
         clear R2 hqr hcr hb hx hxi hcq
         cases b with
         | true=>
          have hpn2:=hpn rfl
          have HM2:=Aside0.mk (show m2=(ys++wpair gp 5 r (j+1)).length by rw [hpn2];exact HM.out)
          have HO2:=Aside0.mk (show wr.ownsRow w2.heap.size 118 2 (.slice A m2 cm) m2 (wayCells (ys++wpair gp 5 r (j+1))) by rw [hpn2];exact HO.out)
          clear hpy hpn hpn2
          go_wp2
          go_roundw
          case rel=>exact⟨j+1,m2,cm,A,by omega,by have:=HXI.out;go_num,rfl,by omega,HM2,HO2,HB⟩
          case measure=>simp [intOf]<;>omega
         | false=>
          have hpy2:=hpy rfl
          have HNX:=Aside0.mk (show ys++wpair gp 5 r (j+1)=(ys++wpair gp 5 r j)++[(r,x)] by rw [hpy2,List.append_assoc])
          have HML:=Aside0.mk (show m2+1=(ys++wpair gp 5 r (j+1)).length by rw [HNX.out,List.length_append,<- HM.out];rfl)
          clear hpy hpn hpy2
          go_wp2_with (first | ((with_reducible refine gate_builtin (b:=.append) (xs:=#[.tmp 49,.tmp 53]) rfl ?_);at_builtin;go_loud (refine print_append_cells (w0:=w2) w2.heap.size rfl (.tmp 49) (.tmp 53) 116 118 (.agg #[.int .i64 0,.int .i64 0]) 2 16 rfl Tryz.underlying116 info118 rfl (by decide) (by decide) (.slice A m2 cm) m2 (wayCells (ys++wpair gp 5 r j)) [.int .i64 (r:Int),.int .i64 (x:Int)] rfl rfl rfl (by simp [Value.oneCell']) HO.out HB.out HB.out.size ?aL ?_;(case aL=>omega);intro v6 w6 ho6 hb6 hg6 hat6;rw [<- wayCells_snoc _ (r,x),<- HNX.out] at ho6;obtain⟨A6,c6,hv6⟩:=own_slice ho6;subst hv6;have HO6:=Aside0.mk ho6;have HB6:=Aside0.mk hb6;clear ho6 hb6 hg6 hat6)))
          go_roundw
          case rel=>first | exact⟨j+1,m2+1,c6,A6,by omega,by have:=HXI.out;go_num,rfl,by omega,HML,HO6,HB6⟩ | ((repeat apply Exists.intro);exact⟨⟨j+1,m2+1,c6,A6,by omega,by have:=HXI.out;go_num,rfl,by omega,HML,HO6,HB6⟩,rfl⟩)
          case measure=>show ((x:Int)-1+2).toNat<((x:Int)+2).toNat;omega
        ·have:j=2:=by omega
         subst this
         go_wp2
         go_roundw
         case rel=>exact⟨i+1,m2,cm,A,by go_num,rfl,by omega,by omega,⟨by rw [HCN.out];exact HM.out⟩,⟨by rw [HCN.out];exact HO.out⟩,HB⟩
         case measure=>simp [intOf]<;>omega
      | false=>
       have hri:=hri3 rfl
       subst hri
       clear hri2 hri3
       go_wp2
       go_loopw [5,10] (fun vo vc wr=>∃ (j m' cm:Nat) (A:Option Addr),j<=2/\vc=.int .i64 ((5:Int)-(j:Int))/\vo=.slice A m' cm/\m'<=m1+j/\Aside0 (m'=(ys++wpair gp 5 i j).length)/\Aside0 (wr.ownsRow w2.heap.size 118 2 (.slice A m' cm) m' (wayCells (ys++wpair gp 5 i j)))/\Aside0 (Below w2.heap.size w2 wr)) (fun _ vc _=>(intOf vc+2).toNat)
       case atStart=>exact⟨0,m1,cm,A,by omega,by go_num,rfl,by omega,HM0,HO0,HB⟩
       case round=>
        clear HM0 HO0 HB
        obtain⟨j,m2,cm,A,hj,rfl,rfl,hm2,HM,HO,HB⟩:=hrel
        by_cases hj2:j<2
        ·obtain⟨x,hx⟩:∃ x:Nat,5-j=x:=⟨_,rfl⟩
         have hxi:(5:Int)-(j:Int)=(x:Int):=by have:=HRP.out;omega
         have hxn:x<n:=by omega
         have hge:(5:Int)-(1:Int)<=(x:Int):=by omega
         obtain⟨R1,_,hcq,_,R2⟩:=(HBR.out.below HB.out (Nat.le_refl _)).row i hin
         have r2:=R2 x hxn
         obtain⟨qr,hqr⟩:∃ qr,q i=qr:=⟨_,rfl⟩
         rw [hqr] at R1 r2
         obtain⟨cr,hcr⟩:∃ cr,cp i=cr:=⟨_,rfl⟩
         rw [hcr] at R1
         have hpy:=wpair_yes gp 5 i j hj2
         have hpn:=wpair_no gp 5 i j hj2
         rw [hx] at hpy hpn
         obtain⟨b,hb⟩:∃ b,gp x i=b:=⟨_,rfl⟩
         rw [hb] at r2 hpy hpn
         rw [hxi]
         have HXI:=Aside0.mk hxi
         have hj3:(j:Int)<2:=by omega
         clear R2 hqr hcr hb hx hxi hcq
         cases b with
         | true=>
          have hpn2:=hpn rfl
          have HM2:=Aside0.mk (show m2=(ys++wpair gp 5 i (j+1)).length by rw [hpn2];exact HM.out)
          have HO2:=Aside0.mk (show wr.ownsRow w2.heap.size 118 2 (.slice A m2 cm) m2 (wayCells (ys++wpair gp 5 i (j+1))) by rw [hpn2];exact HO.out)
          clear hpy hpn hpn2
          go_wp2
          go_roundw
          case rel=>exact⟨j+1,m2,cm,A,by omega,by have:=HXI.out;go_num,rfl,by omega,HM2,HO2,HB⟩
          case measure=>simp [intOf]<;>omega
         | false=>
          have hpy2:=hpy rfl
          have HNX:=Aside0.mk (show ys++wpair gp 5 i (j+1)=(ys++wpair gp 5 i j)++[(i,x)] by rw [hpy2,List.append_assoc])
          have HML:=Aside0.mk (show m2+1=(ys++wpair gp 5 i (j+1)).length by rw [HNX.out,List.length_append,<- HM.out];rfl)
          clear hpy hpn hpy2
          go_wp2_with (first | ((with_reducible refine gate_builtin (b:=.append) (xs:=#[.tmp 49,.tmp 53]) rfl ?_);at_builtin;go_loud (refine print_append_cells (w0:=w2) w2.heap.size rfl (.tmp 49) (.tmp 53) 116 118 (.agg #[.int .i64 0,.int .i64 0]) 2 16 rfl Tryz.underlying116 info118 rfl (by decide) (by decide) (.slice A m2 cm) m2 (wayCells (ys++wpair gp 5 i j)) [.int .i64 (i:Int),.int .i64 (x:Int)] rfl rfl rfl (by simp [Value.oneCell']) HO.out HB.out HB.out.size ?aL ?_;(case aL=>omega);intro v6 w6 ho6 hb6 hg6 hat6;rw [<- wayCells_snoc _ (i,x),<- HNX.out] at ho6;obtain⟨A6,c6,hv6⟩:=own_slice ho6;subst hv6;have HO6:=Aside0.mk ho6;have HB6:=Aside0.mk hb6;clear ho6 hb6 hg6 hat6)))
          go_roundw
          case rel=>first | exact⟨j+1,m2+1,c6,A6,by omega,by have:=HXI.out;go_num,rfl,by omega,HML,HO6,HB6⟩ | ((repeat apply Exists.intro);exact⟨⟨j+1,m2+1,c6,A6,by omega,by have:=HXI.out;go_num,rfl,by omega,HML,HO6,HB6⟩,rfl⟩)
          case measure=>show ((x:Int)-1+2).toNat<((x:Int)+2).toNat;omega
        ·have:j=2:=by omega
         subst this
         go_wp2
         go_roundw
         case rel=>exact⟨i+1,m2,cm,A,by go_num,rfl,by omega,by omega,⟨by rw [HCN.out];exact HM.out⟩,⟨by rw [HCN.out];exact HO.out⟩,HB⟩
         case measure=>simp [intOf]<;>omega
     ·have:i=n:=by omega
      subst this
      go_wp2
      have:=HRP.out
      go_roundw
      case rel=>exact⟨k,3,m1,cm,A,!up,3,_,rfl,rfl,rfl,by omega,by omega,by omega,by omega,by omega,by omega,⟨by rw [List.append_assoc];exact HX2.out⟩,HM,HO,HB⟩
      case measure=>simp [intOf]<;>omega
   ·have HFX:=Aside0.mk (show fixR right=right by unfold fixR;rw [if_neg h6])
    have HX2:=Aside0.mk (show xs++(colPair n gp right up n++wayF n gp k (right-2) (!up))=way n gp by
     have h1:=HX.out
     rw [wayF,if_neg hr0,HFX.out] at h1
     exact h1)
    have hd0:decide (0<right)=true:=decide_eq_true (by omega)
    have hd6:((right:Int)==6)=false:=by rw [beq_eq_false_iff_ne];omega
    clear h6 hrp
    have HRP:=Aside0.mk (show 1<=right by omega)
    clear hor hr1 hr2 HX hr0
    go_wp2
    clear hd0 hd6
    go_loopw [5,8] (fun vo vi wr=>∃ (i m' cm:Nat) (A:Option Addr),vi=.int .i64 (i:Int)/\vo=.slice A m' cm/\i<=n/\m'<=m+2*i/\Aside0 (m'=(xs++colPair n gp right up i).length)/\Aside0 (wr.ownsRow w2.heap.size 118 2 (.slice A m' cm) m' (wayCells (xs++colPair n gp right up i)))/\Aside0 (Below w2.heap.size w2 wr)) (fun _ vi _=>(n-intOf vi).toNat)
    case atStart=>exact⟨0,m,cm,A,rfl,rfl,by omega,by omega,⟨by rw [colPair,List.append_nil];exact HM.out⟩,⟨by rw [colPair,List.append_nil];exact HO.out⟩,HB⟩
    case round=>
     clear HM HO HB
     obtain⟨i,m1,cm,A,rfl,rfl,hi,hm1,HM,HO,HB⟩:=hrel
     by_cases hin:i<n
     ·obtain⟨r,hr⟩:∃ r,rowAt n up i=r:=⟨_,rfl⟩
      have hrn2:r<n:=by rw [<- hr];exact rowAt_lt n up i hin
      have hri2:(n:Int)-1-(i:Int)=(r:Int)\/up=false:=by
       rw [<- hr];unfold rowAt
       cases up with
       | false=>exact .inr rfl
       | true=>left;rw [if_pos rfl];omega
      have hri3:up=false->i=r:=fun h=>by rw [<- hr,h];rfl
      have HCN:=Aside0.mk (show xs++colPair n gp right up (i+1)=xs++colPair n gp right up i++wpair gp right r 2 by rw [colPair,hr,wpair_two,List.append_assoc])
      obtain⟨ys,hys⟩:∃ ys,xs++colPair n gp right up i=ys:=⟨_,rfl⟩
      rw [hys] at HM HO HCN
      have HM0:=Aside0.mk (show m1=(ys++wpair gp right r 0).length by unfold wpair;simpa using HM.out)
      have HO0:=Aside0.mk (show wr.ownsRow w2.heap.size 118 2 (.slice A m1 cm) m1 (wayCells (ys++wpair gp right r 0)) by
       have:ys++wpair gp right r 0=ys:=by unfold wpair;simp
       rw [this];exact HO.out)
      clear hr hys HM HO
      cases up with
      | true=>
       have hri:=hri2.resolve_right (by decide)
       clear hri2 hri3
       go_wp2
       go_loopw [5,10] (fun vo vc wr=>∃ (j m' cm:Nat) (A:Option Addr),j<=2/\vc=.int .i64 ((right:Int)-(j:Int))/\vo=.slice A m' cm/\m'<=m1+j/\Aside0 (m'=(ys++wpair gp right r j).length)/\Aside0 (wr.ownsRow w2.heap.size 118 2 (.slice A m' cm) m' (wayCells (ys++wpair gp right r j)))/\Aside0 (Below w2.heap.size w2 wr)) (fun _ vc _=>(intOf vc+2).toNat)
       case atStart=>exact⟨0,m1,cm,A,by omega,by go_num,rfl,by omega,HM0,HO0,HB⟩
       case round=>
        clear HM0 HO0 HB
        obtain⟨j,m2,cm,A,hj,rfl,rfl,hm2,HM,HO,HB⟩:=hrel
        by_cases hj2:j<2
        ·obtain⟨x,hx⟩:∃ x:Nat,right-j=x:=⟨_,rfl⟩
         have hxi:(right:Int)-(j:Int)=(x:Int):=by have:=HRP.out;omega
         have hxn:x<n:=by omega
         have hge:(right:Int)-(1:Int)<=(x:Int):=by omega
         obtain⟨R1,_,hcq,_,R2⟩:=(HBR.out.below HB.out (Nat.le_refl _)).row r hrn2
         have r2:=R2 x hxn
         obtain⟨qr,hqr⟩:∃ qr,q r=qr:=⟨_,rfl⟩
         rw [hqr] at R1 r2
         obtain⟨cr,hcr⟩:∃ cr,cp r=cr:=⟨_,rfl⟩
         rw [hcr] at R1
         have hpy:=wpair_yes gp right r j hj2
         have hpn:=wpair_no gp right r j hj2
         rw [hx] at hpy hpn
         obtain⟨b,hb⟩:∃ b,gp x r=b:=⟨_,rfl⟩
         rw [hb] at r2 hpy hpn
         rw [hxi]
         have HXI:=Aside0.mk hxi
         have hj3:(j:Int)<2:=by omega
         clear R2 hqr hcr hb hx hxi hcq
         cases b with
         | true=>
          have hpn2:=hpn rfl
          have HM2:=Aside0.mk (show m2=(ys++wpair gp right r (j+1)).length by rw [hpn2];exact HM.out)
          have HO2:=Aside0.mk (show wr.ownsRow w2.heap.size 118 2 (.slice A m2 cm) m2 (wayCells (ys++wpair gp right r (j+1))) by rw [hpn2];exact HO.out)
          clear hpy hpn hpn2
          go_wp2
          go_roundw
          case rel=>exact⟨j+1,m2,cm,A,by omega,by have:=HXI.out;go_num,rfl,by omega,HM2,HO2,HB⟩
          case measure=>simp [intOf]<;>omega
         | false=>
          have hpy2:=hpy rfl
          have HNX:=Aside0.mk (show ys++wpair gp right r (j+1)=(ys++wpair gp right r j)++[(r,x)] by rw [hpy2,List.append_assoc])
          have HML:=Aside0.mk (show m2+1=(ys++wpair gp right r (j+1)).length by rw [HNX.out,List.length_append,<- HM.out];rfl)
          clear hpy hpn hpy2
          go_wp2_with (first | ((with_reducible refine gate_builtin (b:=.append) (xs:=#[.tmp 49,.tmp 53]) rfl ?_);at_builtin;go_loud (refine print_append_cells (w0:=w2) w2.heap.size rfl (.tmp 49) (.tmp 53) 116 118 (.agg #[.int .i64 0,.int .i64 0]) 2 16 rfl Tryz.underlying116 info118 rfl (by decide) (by decide) (.slice A m2 cm) m2 (wayCells (ys++wpair gp right r j)) [.int .i64 (r:Int),.int .i64 (x:Int)] rfl rfl rfl (by simp [Value.oneCell']) HO.out HB.out HB.out.size ?aL ?_;(case aL=>omega);intro v6 w6 ho6 hb6 hg6 hat6;rw [<- wayCells_snoc _ (r,x),<- HNX.out] at ho6;obtain⟨A6,c6,hv6⟩:=own_slice ho6;subst hv6;have HO6:=Aside0.mk ho6;have HB6:=Aside0.mk hb6;clear ho6 hb6 hg6 hat6)))
          go_roundw
          case rel=>first | exact⟨j+1,m2+1,c6,A6,by omega,by have:=HXI.out;go_num,rfl,by omega,HML,HO6,HB6⟩ | ((repeat apply Exists.intro);exact⟨⟨j+1,m2+1,c6,A6,by omega,by have:=HXI.out;go_num,rfl,by omega,HML,HO6,HB6⟩,rfl⟩)
          case measure=>show ((x:Int)-1+2).toNat<((x:Int)+2).toNat;omega
        ·have:j=2:=by omega
         subst this
         go_wp2
         go_roundw
         case rel=>exact⟨i+1,m2,cm,A,by go_num,rfl,by omega,by omega,⟨by rw [HCN.out];exact HM.out⟩,⟨by rw [HCN.out];exact HO.out⟩,HB⟩
         case measure=>simp [intOf]<;>omega
      | false=>
       have hri:=hri3 rfl
       subst hri
       clear hri2 hri3
       go_wp2
       go_loopw [5,10] (fun vo vc wr=>∃ (j m' cm:Nat) (A:Option Addr),j<=2/\vc=.int .i64 ((right:Int)-(j:Int))/\vo=.slice A m' cm/\m'<=m1+j/\Aside0 (m'=(ys++wpair gp right i j).length)/\Aside0 (wr.ownsRow w2.heap.size 118 2 (.slice A m' cm) m' (wayCells (ys++wpair gp right i j)))/\Aside0 (Below w2.heap.size w2 wr)) (fun _ vc _=>(intOf vc+2).toNat)
       case atStart=>exact⟨0,m1,cm,A,by omega,by go_num,rfl,by omega,HM0,HO0,HB⟩
       case round=>
        clear HM0 HO0 HB
        obtain⟨j,m2,cm,A,hj,rfl,rfl,hm2,HM,HO,HB⟩:=hrel
        by_cases hj2:j<2
        ·obtain⟨x,hx⟩:∃ x:Nat,right-j=x:=⟨_,rfl⟩
         have hxi:(right:Int)-(j:Int)=(x:Int):=by have:=HRP.out;omega
         have hxn:x<n:=by omega
         have hge:(right:Int)-(1:Int)<=(x:Int):=by omega
         obtain⟨R1,_,hcq,_,R2⟩:=(HBR.out.below HB.out (Nat.le_refl _)).row i hin
         have r2:=R2 x hxn
         obtain⟨qr,hqr⟩:∃ qr,q i=qr:=⟨_,rfl⟩
         rw [hqr] at R1 r2
         obtain⟨cr,hcr⟩:∃ cr,cp i=cr:=⟨_,rfl⟩
         rw [hcr] at R1
         have hpy:=wpair_yes gp right i j hj2
         have hpn:=wpair_no gp right i j hj2
         rw [hx] at hpy hpn
         obtain⟨b,hb⟩:∃ b,gp x i=b:=⟨_,rfl⟩
         rw [hb] at r2 hpy hpn
         rw [hxi]
         have HXI:=Aside0.mk hxi
         have hj3:(j:Int)<2:=by omega
         clear R2 hqr hcr hb hx hxi hcq
         cases b with
         | true=>
          have hpn2:=hpn rfl
          have HM2:=Aside0.mk (show m2=(ys++wpair gp right i (j+1)).length by rw [hpn2];exact HM.out)
          have HO2:=Aside0.mk (show wr.ownsRow w2.heap.size 118 2 (.slice A m2 cm) m2 (wayCells (ys++wpair gp right i (j+1))) by rw [hpn2];exact HO.out)
          clear hpy hpn hpn2
          go_wp2
          go_roundw
          case rel=>exact⟨j+1,m2,cm,A,by omega,by have:=HXI.out;go_num,rfl,by omega,HM2,HO2,HB⟩
          case measure=>simp [intOf]<;>omega
         | false=>
          have hpy2:=hpy rfl
          have HNX:=Aside0.mk (show ys++wpair gp right i (j+1)=(ys++wpair gp right i j)++[(i,x)] by rw [hpy2,List.append_assoc])
          have HML:=Aside0.mk (show m2+1=(ys++wpair gp right i (j+1)).length by rw [HNX.out,List.length_append,<- HM.out];rfl)
          clear hpy hpn hpy2
          go_wp2_with (first | ((with_reducible refine gate_builtin (b:=.append) (xs:=#[.tmp 49,.tmp 53]) rfl ?_);at_builtin;go_loud (refine print_append_cells (w0:=w2) w2.heap.size rfl (.tmp 49) (.tmp 53) 116 118 (.agg #[.int .i64 0,.int .i64 0]) 2 16 rfl Tryz.underlying116 info118 rfl (by decide) (by decide) (.slice A m2 cm) m2 (wayCells (ys++wpair gp right i j)) [.int .i64 (i:Int),.int .i64 (x:Int)] rfl rfl rfl (by simp [Value.oneCell']) HO.out HB.out HB.out.size ?aL ?_;(case aL=>omega);intro v6 w6 ho6 hb6 hg6 hat6;rw [<- wayCells_snoc _ (i,x),<- HNX.out] at ho6;obtain⟨A6,c6,hv6⟩:=own_slice ho6;subst hv6;have HO6:=Aside0.mk ho6;have HB6:=Aside0.mk hb6;clear ho6 hb6 hg6 hat6)))
          go_roundw
          case rel=>first | exact⟨j+1,m2+1,c6,A6,by omega,by have:=HXI.out;go_num,rfl,by omega,HML,HO6,HB6⟩ | ((repeat apply Exists.intro);exact⟨⟨j+1,m2+1,c6,A6,by omega,by have:=HXI.out;go_num,rfl,by omega,HML,HO6,HB6⟩,rfl⟩)
          case measure=>show ((x:Int)-1+2).toNat<((x:Int)+2).toNat;omega
        ·have:j=2:=by omega
         subst this
         go_wp2
         go_roundw
         case rel=>exact⟨i+1,m2,cm,A,by go_num,rfl,by omega,by omega,⟨by rw [HCN.out];exact HM.out⟩,⟨by rw [HCN.out];exact HO.out⟩,HB⟩
         case measure=>simp [intOf]<;>omega
     ·have:i=n:=by omega
      subst this
      go_wp2
      have:=HRP.out
      go_roundw
      case rel=>exact⟨k,right-2,m1,cm,A,!up,(right:Int)-2,_,rfl,rfl,rfl,by omega,by omega,by omega,by omega,by omega,by omega,⟨by rw [List.append_assoc];exact HX2.out⟩,HM,HO,HB⟩
      case measure=>simp [intOf]<;>omega
def T6:Bool×List (List Nat×List Nat):=(true,[([],[]),([],[]),([1],[1]),([0,2],[0,2]),([3],[3]),([],[]),([5],[5]),([],[]),([],[]),([],[]),([9],[9]),([],[]),([11],[11]),([8,10,12],[8,10,12]),([7,13],[7,13]),([4,6,0,1,2,3,4,5,6,7,8,9,10,11,12,13,14],[4,6]),([15,14,13,0,1,2,3,4,5,6,7,8,9,10,11,12,13,14],[14,15])])
def B6:List Nat:=[0,0,2,7,15,0,32,0,0,0,512,0,2048,7936,16256,32767,65535]
theorem tab6:rtab .any (opsOf Tryz.f28 6)=T6:=by kernel_rfl
theorem bits6:waitsOk T6.2 B6=true:=by kernel_rfl
theorem mask_eq (m x y:Nat)(hm:m<8)(hx:x<200)(hy:y<200):F.spec_QRMaskBit.f m x y=some (maskB m x y):=by
 have hxy:x*y<=40000:=Nat.le_trans (Nat.mul_le_mul (show x<=200 by omega) (show y<=200 by omega)) (by decide)
 have tm:∀ a k:Nat,Int.tmod (a:Int) (k:Int)=((a%k:Nat):Int):=fun a k=>rfl
 have td:∀ a k:Nat,Int.tdiv (a:Int) (k:Int)=((a/k:Nat):Int):=fun a k=>rfl
 have hs:wrap64 ((x:Int)+(y:Int))=((x+y:Nat):Int):=by rw [w64q _ (by omega) (by omega)];omega
 have hp:wrap64 ((x:Int)*(y:Int))=((x*y:Nat):Int):=by
  have e:(x:Int)*(y:Int)=((x*y:Nat):Int):=by rw [Int.natCast_mul]
  rw [e,w64q _ (by omega) (by omega)]
 obtain⟨p,hpp⟩:∃ p,x*y=p:=⟨_,rfl⟩
 rw [hpp] at hp hxy
 have two:(2:Int)=((2:Nat):Int):=rfl
 have three:(3:Int)=((3:Nat):Int):=rfl
 have bq:∀ (a:Nat),((a:Int)==0)=decide (a=0):=fun a=>by
  by_cases h:a=0
  ·subst h;rfl
  ·rw [decide_eq_false h,beq_eq_false_iff_ne];omega
 unfold F.spec_QRMaskBit.f
 rw [hs,hp,two,three]
 match m,hm with
 | 0,_=>rw [if_pos (by decide),tm,bq];rfl
 | 1,_=>rw [if_neg (by decide),if_pos (by decide),tm,bq];rfl
 | 2,_=>rw [if_neg (by decide),if_neg (by decide),if_pos (by decide),tm,bq];rfl
 | 3,_=>rw [if_neg (by decide),if_neg (by decide),if_neg (by decide),if_pos (by decide),tm,bq];rfl
 | 4,_=>
  rw [if_neg (by decide),if_neg (by decide),if_neg (by decide),if_neg (by decide),if_pos (by decide),td,td,w64q ((y/2:Nat):Int) (by omega) (by omega),w64q ((x/3:Nat):Int) (by omega) (by omega),w64q _ (by omega) (by omega),<- Int.natCast_add,tm,bq]
  rfl
 | 5,_=>
  rw [if_neg (by decide),if_neg (by decide),if_neg (by decide),if_neg (by decide),if_neg (by decide),if_pos (by decide),tm,tm,w64q _ (by omega) (by omega),<- Int.natCast_add,bq,<- hpp]
  rfl
 | 6,_=>
  rw [if_neg (by decide),if_neg (by decide),if_neg (by decide),if_neg (by decide),if_neg (by decide),if_neg (by decide),if_pos (by decide),tm,tm,w64q _ (by omega) (by omega),<- Int.natCast_add,tm,bq,<- hpp]
  rfl
 | 7,_=>
  rw [if_neg (by decide),if_neg (by decide),if_neg (by decide),if_neg (by decide),if_neg (by decide),if_neg (by decide),if_neg (by decide),tm,tm,w64q _ (by omega) (by omega),<- Int.natCast_add,tm,bq,<- hpp]
  rfl
theorem maskBit (w:World)(m x y:Nat)(hm:m<8)(hx:x<200)(hy:y<200):Calls Tryz.prog 65 #[.int .i64 (m:Int),.int .i64 (x:Int),.int .i64 (y:Int)] w fun e w'=>e=.returned (.bool (maskB m x y))/\Drawn0 w w' :=
 F.spec_QRMaskBit.calls m x y _ w (mask_eq m x y hm hx hy)
theorem wayF_lt (n:Nat)(g:Nat->Nat->Bool)(p:Nat×Nat)(h:p∈way n g)(hn:1<=n)(ho:n%2=1):p.1<n/\p.2<n:=by
 obtain⟨h1,h2,h3,_⟩:=wayF_mem n g p _ _ _ h
 refine⟨h3,?_⟩
 have:fixR (n-1)<=n-1:=by unfold fixR;split<;>omega
 omega
theorem putAll_snoc (bit:Nat->Nat×Nat->Bool):∀ (l:List (Nat×Nat)) (p:Nat×Nat) (i:Nat) (f:Nat->Nat->Bool),putAll bit (l++[p]) i f=fun r c=>if r=p.1/\c=p.2 then bit (i+l.length) p else putAll bit l i f r c:=by
 intro l
 induction l with
 | nil=>intro p i f;rfl
 | cons q l ih=>
  intro p i f
  rw [List.cons_append,putAll,ih,putAll,show i+1+l.length=i+(q :: l).length by simp;omega]
def modBit (bits:List Bool)(m:Nat)(i:Nat)(p:Nat×Nat):Bool:=bits.getD i false != maskB m p.2 p.1
theorem way_cells {w:World}{base m c:Nat}{A:Option Addr}{xs:List (Nat×Nat)}(h:w.ownsRow base 118 2 (.slice A m c) m (wayCells xs))(hm:m=xs.length)(h0:0<m) :
  ∃ q CS,A=some ⟨q,0,none⟩/\Blk w q 118 CS/\m<=c/\∀ i,i<m->CS[i*2]? = some (.int .i64 ((xs.getD i (0,0)).1:Int))/\CS[i*2+1]? = some (.int .i64 ((xs.getD i (0,0)).2:Int)):=by
 obtain⟨hlen,h2⟩:=h
 rcases h2 with⟨_,h3⟩ | ⟨q,c',cs,hv,hb,hh,hc,hmx,hs,ht⟩
 ·omega
 ·injection hv with hA _ hcc
  subst hcc
  refine⟨q,cs,hA,hh,hc,fun i hi=>?_⟩
  have hget:∀ (ys:List (Nat×Nat)) (i:Nat),i<ys.length->(wayCells ys)[i*2]? = some (.int .i64 ((ys.getD i (0,0)).1:Int))/\(wayCells ys)[i*2+1]? = some (.int .i64 ((ys.getD i (0,0)).2:Int)):=by
   intro ys
   induction ys with
   | nil=>intro i hi;simp at hi
   | cons y ys ih=>
    intro i hi
    cases i with
    | zero=>exact⟨rfl,rfl⟩
    | succ i=>
     have:=ih i (by simpa using hi)
     rw [show (i+1)*2=i*2+1+1 by omega]
     unfold wayCells
     rw [List.flatMap_cons]
     simpa [wayCells] using this
  obtain⟨g1,g2⟩:=hget xs i (by omega)
  rw [<- ht] at g1 g2
  rw [List.getElem?_take_of_lt (by omega)] at g1 g2
  rw [<- Array.getElem?_toList,<- Array.getElem?_toList]
  exact⟨g1,g2⟩
theorem pat_mods (w:World)(v l m n:Nat)(cf:Nat->Nat->Bool)(hn:17+4*v=n)(hn1:1<=n)(hp:Ev (fun k=>F.spec_QRPatterns.f k v l m) (rowsOfB n cf n)) :
  Calls Tryz.prog 15 #[.int .i64 (v:Int),.int .i64 (l:Int),.int .i64 (m:Int)] w fun e w'=>∃ g cap q cp,e=.returned (.slice (some ⟨g,0,none⟩) n cap)/\(n<=cap/\cp n=cap)/\Brows w' w.heap.size g n q cp cf/\Below w.heap.size w w':=by
 obtain⟨kk,hkk⟩:=hp.rounds
 refine (F.spec_QRPatterns.calls kk v l m _ w hkk).mono ?_
 rintro e w' ⟨v0,rfl,hS,hb⟩
 obtain⟨g,cap,q,cp,rfl,hc,hbr⟩:=rows_open hS hn1
 exact⟨g,cap,q,cp,rfl,hc,hbr,hb⟩
set_option maxHeartbeats 4000000 in
set_option maxRecDepth 8000 in
theorem mods28 (w:World)(v l m qb nb cb:Nat)(bits:List Bool)(cf:Nat->Nat->Bool)(hv:1<=v/\v<=40)(hm:m<8)(hbn:bits.length=nb)(hq:qb<w.heap.size)(hb:∀ i,i<nb->w.cell? ⟨qb,i,none⟩=some (.bool (bits.getD i false)))
  (hp:Ev (fun k=>F.spec_QRPatterns.f k v l m) (rowsOfB (17+4*v) cf (17+4*v))) :
  Calls Tryz.prog 28 #[.slice (some ⟨qb,0,none⟩) nb cb,.int .i64 (v:Int),.int .i64 (l:Int),.int .i64 (m:Int)] w fun e w'=>∃ g cap q cp,e=.returned (.slice (some ⟨g,0,none⟩) (17+4*v) cap)/\(17+4*v<=cap/\cp (17+4*v)=cap)/\
   Brows w' w.heap.size g (17+4*v) q cp (putAll (modBit bits m) (way (17+4*v) (fpB v (ctrs v))) 0 cf)/\Below w.heap.size w w':=by
 have KW:=Aside0.mk (fun W=>way64 W v hv)
 obtain⟨n,hn⟩:∃ n,17+4*v=n:=⟨_,rfl⟩
 have hn1:1<=n:=by omega
 have hodd:n%2=1:=by omega
 have hn2:n<200:=by omega
 rw [hn] at hp
 have kp:=pat_mods w v l m n cf hn hn1 hp
 have hwl:=way_len v hv
 have hrm:=(tot_row v hv).2
 have hr0:0<roomN v:=by
  have L:=lay_at v 0 hv (by decide)
  have h1:=L.tot
  have h2:0<lvD v 0*(lvC v 0+lvC2 v 0):=Nat.mul_pos L.d1 (by have:=L.c1;omega)
  omega
 rw [hn] at KW hwl ⊢
 obtain⟨xs,hxs⟩:∃ xs,way n (fpB v (ctrs v))=xs:=⟨_,rfl⟩
 have hin:∀ p,p∈xs->p.1<n/\p.2<n:=fun p hp=>by rw [<- hxs] at hp;exact wayF_lt n _ p hp hn1 hodd
 rw [hxs] at KW hwl ⊢
 clear hxs hp hn
 have HB_:=Aside0.mk hb
 have HQ:=Aside0.mk hq
 have HIN:=Aside0.mk hin
 have HBN:=Aside0.mk hbn
 have HM8:=Aside0.mk hm
 clear hb hq hin hbn hm
 go_enter Tryz.func28,Tryz.ntmps28
 go_wp2_with (first | (go_at_call 15;refine kp.mono ?_;rintro e0 w1 ⟨gg,cg,q,cp,rfl,hcg,hbr,hb1⟩;have HBR:=Aside0.mk hbr;have HB1:=Aside0.mk hb1;clear hbr hb1) | (go_at_call 64;refine (KW.out _).mono ?_;rintro e0 w2 ⟨A,M,cM,rfl,hM,ho,hb2⟩;obtain⟨qw,CS,hA,hblk,hMc,hcs⟩:=way_cells ho hM (by omega);subst hA;have HCS:=Aside0.mk hcs;have HBLK:=Aside0.mk hblk;have HM:=Aside0.mk hM;have HB2:=Aside0.mk (HB1.out.trans (hb2.mono HB1.out.size));have HBR2:=Aside0.mk (HBR.out.below hb2 (Nat.le_refl _));clear ho hb2 hcs hblk hM))
 clear kp HBR
 have hM5:M<=40000:=by rw [HM.out,hwl];exact hrm
 clear hwl hrm hr0
 go_loopw [20] (fun vi wr=>∃ i:Nat,vi=.int .i64 (i:Int)/\i<=M/\Aside0 (Brows wr w.heap.size gg n q cp (putAll (modBit bits m) (xs.take i) 0 cf))/\Aside0 (Blk wr qw 118 CS)/\Aside0 (Below w.heap.size w wr)) (fun vi _=>(M-intOf vi).toNat)
 case atStart=>exact⟨0,rfl,Nat.zero_le _,HBR2,HBLK,HB2⟩
 case round=>
  clear HBR2 HBLK HB2
  obtain⟨i,rfl,hi,HBR,HBLK,HB⟩:=hrel
  by_cases hiM:i<M
  ·obtain⟨p,hp⟩:∃ p,xs.getD i (0,0)=p:=⟨_,rfl⟩
   obtain⟨r,c⟩:=p
   obtain⟨c1,c2⟩:=HCS.out i hiM
   rw [hp] at c1 c2
   have hmem:(r,c)∈xs:=by
    rw [<- hp,List.getD_eq_getElem?_getD,List.getElem?_eq_getElem (by rw [<- HM.out];exact hiM)]
    exact List.getElem_mem _
   obtain⟨hrn,hcn⟩:=HIN.out _ hmem
   have r0:wr.cell? ⟨qw,i*2,none⟩=some (.int .i64 (r:Int)):=(Blk.cell HBLK.out (i*2)).trans c1
   have r1:wr.cell? ⟨qw,i*2+1,none⟩=some (.int .i64 (c:Int)):=(Blk.cell HBLK.out (i*2+1)).trans c2
   have htk:xs.take (i+1)=xs.take i++[(r,c)]:=by
    rw [List.take_succ_eq_append_getElem (by rw [<- HM.out];exact hiM)]
    congr 2
    rw [List.getD_eq_getElem?_getD,List.getElem?_eq_getElem (by rw [<- HM.out];exact hiM)] at hp
    exact hp
   have HNX:=Aside0.mk (show putAll (modBit bits m) (xs.take (i+1)) 0 cf=fun r' c'=>if r'=r/\c'=c then modBit bits m i (r,c) else putAll (modBit bits m) (xs.take i) 0 cf r' c' by
    rw [htk,putAll_snoc,Nat.zero_add,List.length_take,Nat.min_eq_left (by rw [<- HM.out];exact hi)])
   have hbit:i<nb->wr.cell? ⟨qb,i,none⟩=some (.bool (bits.getD i false)):=fun h=>(HB.out.cell (p:=⟨qb,i,none⟩) HQ.out).trans (HB_.out i h)
   have hbit2:¬ i<nb->bits.getD i false=false:=fun h=>by rw [List.getD_eq_getElem?_getD,List.getElem?_eq_none (by rw [HBN.out];omega)];rfl
   obtain⟨b,hbb⟩:∃ b,bits.getD i false=b:=⟨_,rfl⟩
   rw [hbb] at hbit hbit2
   have HMB:=Aside0.mk (show modBit bits m i (r,c)=(b != maskB m c r) by unfold modBit;rw [hbb])
   clear hp c1 c2 hmem htk hbb
   obtain⟨o,ho⟩:∃ o,o=Obj.cells #[.int .i64 (r:Int),.int .i64 (c:Int)] 118:=⟨_,rfl⟩
   have hBR3:=HBR.out.below (below_alloc (Below.refl _ _) o) (Nat.le_refl _)
   obtain⟨z1,zb,zc,⟨zcs,zk⟩,z2⟩:=hBR3.row r hrn
   have z3:=z2 c hcn
   have z4:(wr.alloc o).frozen? ⟨q r,c,none⟩=false:=Blk.frozen zk c
   have zn:Blk (wr.alloc o) wr.heap.size 118 #[.int .i64 (r:Int),.int .i64 (c:Int)]:=by rw [ho];exact Blk.new _ _ _
   have z5:(wr.alloc o).cell? ⟨wr.heap.size,0,none⟩=some (.int .i64 (r:Int)):=Blk.cell zn 0
   have z6:(wr.alloc o).cell? ⟨wr.heap.size,1,none⟩=some (.int .i64 (c:Int)):=Blk.cell zn 1
   have HF:=Aside0.mk (show ∀ W u,Below (wr.alloc o).heap.size (wr.alloc o) W->u=modBit bits m i (r,c)->Brows (W.setCell ⟨q r,c,none⟩ (.bool u)) w.heap.size gg n q cp (putAll (modBit bits m) (xs.take (i+1)) 0 cf)/\Blk (W.setCell ⟨q r,c,none⟩ (.bool u)) qw 118 CS/\Below w.heap.size w (W.setCell ⟨q r,c,none⟩ (.bool u)) from fun W u hW hu=>by
    have hbr:=(hBR3.below hW (Nat.le_refl _)).set r c u hrn hcn
    have hblk:=(HBLK.out.alloc o).below hW (Blk.lt (HBLK.out.alloc o))
    have hzk:=zk.below hW (Blk.lt zk)
    refine⟨?_,hblk.far (p:=⟨q r,c,none⟩) (blk_ne hblk hzk (by decide)) _,Below.setc ((HB.out.alloc HB.out.size o).trans (hW.mono ?_)) zb _⟩
    ·rw [HNX.out]
     rw [hu] at hbr ⊢
     exact hbr
    ·exact Nat.le_trans HB.out.size (below_alloc (Below.refl wr.heap.size wr) o).size)
   have r2:i<nb->(wr.alloc o).cell? ⟨qb,i,none⟩=some (.bool b):=fun h=>cell_on (below_alloc (Below.refl _ _) o) (hbit h)
   obtain⟨qr,hqr⟩:∃ qr,q r=qr:=⟨_,rfl⟩
   obtain⟨cr,hcr⟩:∃ cr,cp r=cr:=⟨_,rfl⟩
   rw [hqr,hcr] at z1
   rw [hqr] at z3 z4 HF
   obtain⟨old,hold⟩:∃ old,putAll (modBit bits m) (xs.take i) 0 cf r c=old:=⟨_,rfl⟩
   rw [hold] at z3
   have KM:=Aside0.mk (fun W=>maskBit W m c r HM8.out (by omega) (by omega))
   obtain⟨mb,hmb⟩:∃ mb,maskB m c r=mb:=⟨_,rfl⟩
   rw [hmb] at KM HMB
   have HBLK':=HBLK
   clear hBR3 zb zc zk z2 zn hbit HNX HBR HBLK HB hqr hcr hold hmb
   subst ho
   by_cases hin:i<nb
   ·have r2:=r2 hin
    clear hbit2
    go_wp2
    clear r0 r1 r2
    obtain⟨w3,hw3⟩:∃ w3,w3=wr.alloc (Obj.cells #[.int .i64 (r:Int),.int .i64 (c:Int)] 118):=⟨_,rfl⟩
    rw [<- hw3] at z1 z3 z4 z5 z6 HF ⊢
    obtain⟨pn,hpn⟩:∃ pn,pn=wr.heap.size:=⟨_,rfl⟩
    rw [<- hpn] at z5 z6 ⊢
    clear hw3 hpn
    have km:∀ W,Calls Tryz.prog 65 #[.int .i64 (m:Int),.int .i64 (c:Int),.int .i64 (r:Int)] W fun e w'=>e=.returned (.bool mb)/\∃ j,w'=W.drewN j:=fun W=>(KM.out W).mono fun _ _ h=>⟨h.1,h.2.out⟩
    have e1:=eq_true (show (0:Int)<=(r:Int) by omega)
    have e2:=eq_true (show (r:Int)<(n:Int) by omega)
    have e3:=eq_true (show (0:Int)<=(c:Int) by omega)
    have e4:=eq_true (show (c:Int)<(n:Int) by omega)
    have HFN:=Aside0.mk (fun k=>HF.out (w3.drewN k) (!b==mb) (pw_below_drewN (Below.refl _ _) k) (by rw [HMB.out];cases b<;>cases mb<;>rfl))
    refine start_ (n:=17) (S:=fun w'=>w'.cell? ⟨pn,0,none⟩=some (.int .i64 (r:Int))/\w'.cell? ⟨gg,r,none⟩=some (.slice (some ⟨qr,0,none⟩) n cr)/\w'.cell? ⟨pn,1,none⟩=some (.int .i64 (c:Int))) (ds:=[16]) #[false,false,false,false,false,false,false,false,false,false,false,false,false,false,false,false,false] (by kernel_rfl) rfl rfl ⟨z5,z1,z6⟩ (fun hHeld=>?_)
    refine with_tabW tab6 bits6 (fun HT_ HW_=>?_)
    refine pure_ (i:=0) (N:=some 35) (v:=?_) (a':=?_) #[true,false,false,false,false,false,false,false,false,false,false,false,false,false,false,false,false] rfl rfl (any_of HT_.out (by kernel_rfl)) (fun _ _ _ h=>h) (Or.inl ⟨by rfl,?_⟩) ?_ ?_
    rotate_left
    ·intro w'
     go_simp
     try with_reducible rfl
    rotate_left
    ·simp only [Act.put,List.setIfInBounds_toArray,List.set_cons_zero,List.set_cons_succ,i64_w,i32_w]
     rfl
    refine pure_ (i:=1) (N:=some 36) (v:=?_) (a':=?_) #[true,true,false,false,false,false,false,false,false,false,false,false,false,false,false,false,false] rfl rfl (any_of HT_.out (by kernel_rfl)) (fun _ _ _ h=>h) (Or.inl ⟨by rfl,?_⟩) ?_ ?_
    rotate_left
    ·intro w'
     go_simp
     try with_reducible rfl
    rotate_left
    ·simp only [Act.put,List.setIfInBounds_toArray,List.set_cons_zero,List.set_cons_succ,i64_w,i32_w]
     rfl
    refine pure_ (i:=5) (N:=some 40) (v:=?_) (a':=?_) #[true,true,false,false,false,true,false,false,false,false,false,false,false,false,false,false,false] rfl rfl (any_of HT_.out (by kernel_rfl)) (fun _ _ _ h=>h) (Or.inl ⟨by rfl,?_⟩) ?_ ?_
    rotate_left
    ·intro w'
     go_simp
     try with_reducible rfl
    rotate_left
    ·simp only [Act.put,List.setIfInBounds_toArray,List.set_cons_zero,List.set_cons_succ,i64_w,i32_w]
     rfl
    refine pure_ (i:=7) (N:=some 42) (v:=?_) (a':=?_) #[true,true,false,false,false,true,false,true,false,false,false,false,false,false,false,false,false] rfl rfl (any_of HT_.out (by kernel_rfl)) (fun _ _ _ h=>h) (Or.inl ⟨by rfl,?_⟩) ?_ ?_
    rotate_left
    ·intro w'
     go_simp
     try with_reducible rfl
    rotate_left
    ·simp only [Act.put,List.setIfInBounds_toArray,List.set_cons_zero,List.set_cons_succ,i64_w,i32_w]
     rfl
    refine pure_ (i:=8) (N:=some 43) (v:=?_) (a':=?_) #[true,true,false,false,false,true,false,true,true,false,false,false,false,false,false,false,false] rfl rfl (any_of HT_.out (by kernel_rfl)) (fun _ _ _ h=>h) (Or.inl ⟨by rfl,?_⟩) ?_ ?_
    rotate_left
    ·intro w'
     go_simp
     try with_reducible rfl
    rotate_left
    ·simp only [Act.put,List.setIfInBounds_toArray,List.set_cons_zero,List.set_cons_succ,i64_w,i32_w]
     rfl
    refine pure_ (i:=9) (N:=some 44) (v:=?_) (a':=?_) #[true,true,false,false,false,true,false,true,true,true,false,false,false,false,false,false,false] rfl rfl (any_of HT_.out (by kernel_rfl)) (fun _ _ _ h=>h) (Or.inl ⟨by rfl,?_⟩) ?_ ?_
    rotate_left
    ·intro w'
     go_simp
     try with_reducible rfl
    rotate_left
    ·simp only [Act.put,List.setIfInBounds_toArray,List.set_cons_zero,List.set_cons_succ,i64_w,i32_w]
     rfl
    refine pure_ (i:=11) (N:=some 46) (v:=?_) (a':=?_) #[true,true,false,false,false,true,false,true,true,true,false,true,false,false,false,false,false] rfl rfl (any_of HT_.out (by kernel_rfl)) (fun _ _ _ h=>h) (Or.inl ⟨by rfl,?_⟩) ?_ ?_
    rotate_left
    ·intro w'
     go_simp
     try with_reducible rfl
    rotate_left
    ·simp only [Act.put,List.setIfInBounds_toArray,List.set_cons_zero,List.set_cons_succ,i64_w,i32_w]
     rfl
    refine take_ (i:=2) (N:=some 37) (v:=?_) (a':=?_) #[true,true,true,false,false,true,false,true,true,true,false,true,false,false,false,false,false] rfl rfl (take_ofW HT_.out HW_.out (by kernel_rfl)) (fun _ _ _ h=>h) (Or.inl ⟨by rfl,?_⟩) hHeld ?_ ?_
    rotate_left
    ·intro w' s0
     obtain⟨s1,s2,s3⟩:=s0
     go_simp
     try with_reducible rfl
    rotate_left
    ·simp only [Act.put,List.setIfInBounds_toArray,List.set_cons_zero,List.set_cons_succ,i64_w,i32_w]
     rfl
    refine pure_ (i:=3) (N:=some 38) (v:=?_) (a':=?_) #[true,true,true,true,false,true,false,true,true,true,false,true,false,false,false,false,false] rfl rfl (any_of HT_.out (by kernel_rfl)) (fun _ _ _ h=>h) (Or.inl ⟨by rfl,?_⟩) ?_ ?_
    rotate_left
    ·intro w'
     go_simp
     try with_reducible rfl
    rotate_left
    ·simp only [Act.put,List.setIfInBounds_toArray,List.set_cons_zero,List.set_cons_succ,i64_w,i32_w]
     rfl
    refine take_ (i:=4) (N:=some 39) (v:=?_) (a':=?_) #[true,true,true,true,true,true,false,true,true,true,false,true,false,false,false,false,false] rfl rfl (take_ofW HT_.out HW_.out (by kernel_rfl)) (fun _ _ _ h=>h) (Or.inl ⟨by rfl,?_⟩) hHeld ?_ ?_
    rotate_left
    ·intro w' s0
     obtain⟨s1,s2,s3⟩:=s0
     go_simp
     try with_reducible rfl
    rotate_left
    ·simp only [Act.put,List.setIfInBounds_toArray,List.set_cons_zero,List.set_cons_succ,i64_w,i32_w]
     rfl
    refine take_ (i:=6) (N:=some 41) (v:=?_) (a':=?_) #[true,true,true,true,true,true,true,true,true,true,false,true,false,false,false,false,false] rfl rfl (take_ofW HT_.out HW_.out (by kernel_rfl)) (fun _ _ _ h=>h) (Or.inl ⟨by rfl,?_⟩) hHeld ?_ ?_
    rotate_left
    ·intro w' s0
     obtain⟨s1,s2,s3⟩:=s0
     go_simp
     try with_reducible rfl
    rotate_left
    ·simp only [Act.put,List.setIfInBounds_toArray,List.set_cons_zero,List.set_cons_succ,i64_w,i32_w]
     rfl
    refine take_ (i:=10) (N:=some 45) (v:=?_) (a':=?_) #[true,true,true,true,true,true,true,true,true,true,true,true,false,false,false,false,false] rfl rfl (take_ofW HT_.out HW_.out (by kernel_rfl)) (fun _ _ _ h=>h) (Or.inl ⟨by rfl,?_⟩) hHeld ?_ ?_
    rotate_left
    ·intro w' s0
     obtain⟨s1,s2,s3⟩:=s0
     go_simp
     try with_reducible rfl
    rotate_left
    ·simp only [Act.put,List.setIfInBounds_toArray,List.set_cons_zero,List.set_cons_succ,i64_w,i32_w]
     rfl
    refine take_ (i:=12) (N:=some 47) (v:=?_) (a':=?_) #[true,true,true,true,true,true,true,true,true,true,true,true,true,false,false,false,false] rfl rfl (take_ofW HT_.out HW_.out (by kernel_rfl)) (fun _ _ _ h=>h) (Or.inl ⟨by rfl,?_⟩) hHeld ?_ ?_
    rotate_left
    ·intro w' s0
     obtain⟨s1,s2,s3⟩:=s0
     go_simp
     try with_reducible rfl
    rotate_left
    ·simp only [Act.put,List.setIfInBounds_toArray,List.set_cons_zero,List.set_cons_succ,i64_w,i32_w]
     rfl
    refine one_ (i:=13) (N:=some 48) #[true,true,true,true,true,true,true,true,true,true,true,true,true,true,false,false,false] rfl rfl (one_of HT_.out (by kernel_rfl)) (by decide) (fun K hK=>?_)
    refine goes_ Tryz.func65 (by kernel_rfl) rfl #[.int .i64 (m:Int),.int .i64 (c:Int),.int .i64 (r:Int)] (by rfl) rfl rfl (by (try simp only [List.map_toArray,List.map_cons,List.map_nil]);first | done | rfl) ?_
    refine (km _).mono ?_
    rintro e0 w5 ⟨rfl,nd,rfl⟩
    refine⟨_,rfl,?_⟩
    refine hK.out _ _ ⟨z5,z1,z6⟩ (fun hHeld=>?_)
    clear hK K
    refine norm_ (a':=?_) ?_ ?_
    rotate_left
    ·show Act.put _ (some 48) _=_
     simp only [Act.put,List.setIfInBounds_toArray,List.set_cons_zero,List.set_cons_succ,i64_w,i32_w]
     rfl
    refine pure_ (i:=14) (N:=some 49) (v:=?_) (a':=?_) #[true,true,true,true,true,true,true,true,true,true,true,true,true,true,true,false,false] rfl rfl (any_of HT_.out (by kernel_rfl)) (fun _ _ _ h=>h) (Or.inl ⟨by rfl,?_⟩) ?_ ?_
    rotate_left
    ·intro w'
     go_simp
     try with_reducible rfl
    rotate_left
    ·simp only [Act.put,List.setIfInBounds_toArray,List.set_cons_zero,List.set_cons_succ,i64_w,i32_w]
     rfl
    refine pure_ (i:=15) (N:=some 50) (v:=?_) (a':=?_) #[true,true,true,true,true,true,true,true,true,true,true,true,true,true,true,true,false] rfl rfl (any_of HT_.out (by kernel_rfl)) (fun _ _ _ h=>h) (Or.inl ⟨by rfl,?_⟩) ?_ ?_
    rotate_left
    ·intro w'
     go_simp
     try with_reducible rfl
    rotate_left
    ·simp only [Act.put,List.setIfInBounds_toArray,List.set_cons_zero,List.set_cons_succ,i64_w,i32_w]
     rfl
    refine last_ (i:=16) (N:=none) #[true,true,true,true,true,true,true,true,true,true,true,true,true,true,true,true,true] rfl rfl (one_of HT_.out (by kernel_rfl)) (by decide) (fun K hK=>?_)
    refine skip_ (w1:=?_) (by rfl) rfl ?_ ?_
    rotate_left
    ·go_simp
     rfl
    refine hK.out _ _ ?_
    clear hK K
    refine done_ (done_of HT_.out (by kernel_rfl)) ?_
    clear z1 z3 z4 z5 z6 hHeld HT_ HW_ km e1 e2 e3 e4
    go_wp2
    go_roundw
    case rel=>first | exact⟨i+1,by go_num,by omega,⟨(HFN.out _).1⟩,⟨(HFN.out _).2.1⟩,⟨(HFN.out _).2.2⟩⟩ | ((repeat apply Exists.intro);exact⟨⟨i+1,by go_num,by omega,⟨(HFN.out _).1⟩,⟨(HFN.out _).2.1⟩,⟨(HFN.out _).2.2⟩⟩,rfl⟩)
    case measure=>show ((M:Int)-((i:Int)+1)).toNat<((M:Int)-(i:Int)).toNat;omega
   ·have hb0:=hbit2 hin
    subst hb0
    clear hbit2 r2
    go_wp2
    clear r0 r1
    obtain⟨w3,hw3⟩:∃ w3,w3=wr.alloc (Obj.cells #[.int .i64 (r:Int),.int .i64 (c:Int)] 118):=⟨_,rfl⟩
    rw [<- hw3] at z1 z3 z4 z5 z6 HF ⊢
    obtain⟨pn,hpn⟩:∃ pn,pn=wr.heap.size:=⟨_,rfl⟩
    rw [<- hpn] at z5 z6 ⊢
    clear hw3 hpn
    have km:∀ W,Calls Tryz.prog 65 #[.int .i64 (m:Int),.int .i64 (c:Int),.int .i64 (r:Int)] W fun e w'=>e=.returned (.bool mb)/\∃ j,w'=W.drewN j:=fun W=>(KM.out W).mono fun _ _ h=>⟨h.1,h.2.out⟩
    have e1:=eq_true (show (0:Int)<=(r:Int) by omega)
    have e2:=eq_true (show (r:Int)<(n:Int) by omega)
    have e3:=eq_true (show (0:Int)<=(c:Int) by omega)
    have e4:=eq_true (show (c:Int)<(n:Int) by omega)
    have HFN:=Aside0.mk (fun k=>HF.out (w3.drewN k) mb (pw_below_drewN (Below.refl _ _) k) (by rw [HMB.out];cases mb<;>rfl))
    refine start_ (n:=17) (S:=fun w'=>w'.cell? ⟨pn,0,none⟩=some (.int .i64 (r:Int))/\w'.cell? ⟨gg,r,none⟩=some (.slice (some ⟨qr,0,none⟩) n cr)/\w'.cell? ⟨pn,1,none⟩=some (.int .i64 (c:Int))) (ds:=[16]) #[false,false,false,false,false,false,false,false,false,false,false,false,false,false,false,false,false] (by kernel_rfl) rfl rfl ⟨z5,z1,z6⟩ (fun hHeld=>?_)
    refine with_tabW tab6 bits6 (fun HT_ HW_=>?_)
    refine pure_ (i:=0) (N:=some 35) (v:=?_) (a':=?_) #[true,false,false,false,false,false,false,false,false,false,false,false,false,false,false,false,false] rfl rfl (any_of HT_.out (by kernel_rfl)) (fun _ _ _ h=>h) (Or.inl ⟨by rfl,?_⟩) ?_ ?_
    rotate_left
    ·intro w'
     go_simp
     try with_reducible rfl
    rotate_left
    ·simp only [Act.put,List.setIfInBounds_toArray,List.set_cons_zero,List.set_cons_succ,i64_w,i32_w]
     rfl
    refine pure_ (i:=1) (N:=some 36) (v:=?_) (a':=?_) #[true,true,false,false,false,false,false,false,false,false,false,false,false,false,false,false,false] rfl rfl (any_of HT_.out (by kernel_rfl)) (fun _ _ _ h=>h) (Or.inl ⟨by rfl,?_⟩) ?_ ?_
    rotate_left
    ·intro w'
     go_simp
     try with_reducible rfl
    rotate_left
    ·simp only [Act.put,List.setIfInBounds_toArray,List.set_cons_zero,List.set_cons_succ,i64_w,i32_w]
     rfl
    refine pure_ (i:=5) (N:=some 40) (v:=?_) (a':=?_) #[true,true,false,false,false,true,false,false,false,false,false,false,false,false,false,false,false] rfl rfl (any_of HT_.out (by kernel_rfl)) (fun _ _ _ h=>h) (Or.inl ⟨by rfl,?_⟩) ?_ ?_
    rotate_left
    ·intro w'
     go_simp
     try with_reducible rfl
    rotate_left
    ·simp only [Act.put,List.setIfInBounds_toArray,List.set_cons_zero,List.set_cons_succ,i64_w,i32_w]
     rfl
    refine pure_ (i:=7) (N:=some 42) (v:=?_) (a':=?_) #[true,true,false,false,false,true,false,true,false,false,false,false,false,false,false,false,false] rfl rfl (any_of HT_.out (by kernel_rfl)) (fun _ _ _ h=>h) (Or.inl ⟨by rfl,?_⟩) ?_ ?_
    rotate_left
    ·intro w'
     go_simp
     try with_reducible rfl
    rotate_left
    ·simp only [Act.put,List.setIfInBounds_toArray,List.set_cons_zero,List.set_cons_succ,i64_w,i32_w]
     rfl
    refine pure_ (i:=8) (N:=some 43) (v:=?_) (a':=?_) #[true,true,false,false,false,true,false,true,true,false,false,false,false,false,false,false,false] rfl rfl (any_of HT_.out (by kernel_rfl)) (fun _ _ _ h=>h) (Or.inl ⟨by rfl,?_⟩) ?_ ?_
    rotate_left
    ·intro w'
     go_simp
     try with_reducible rfl
    rotate_left
    ·simp only [Act.put,List.setIfInBounds_toArray,List.set_cons_zero,List.set_cons_succ,i64_w,i32_w]
     rfl
    refine pure_ (i:=9) (N:=some 44) (v:=?_) (a':=?_) #[true,true,false,false,false,true,false,true,true,true,false,false,false,false,false,false,false] rfl rfl (any_of HT_.out (by kernel_rfl)) (fun _ _ _ h=>h) (Or.inl ⟨by rfl,?_⟩) ?_ ?_
    rotate_left
    ·intro w'
     go_simp
     try with_reducible rfl
    rotate_left
    ·simp only [Act.put,List.setIfInBounds_toArray,List.set_cons_zero,List.set_cons_succ,i64_w,i32_w]
     rfl
    refine pure_ (i:=11) (N:=some 46) (v:=?_) (a':=?_) #[true,true,false,false,false,true,false,true,true,true,false,true,false,false,false,false,false] rfl rfl (any_of HT_.out (by kernel_rfl)) (fun _ _ _ h=>h) (Or.inl ⟨by rfl,?_⟩) ?_ ?_
    rotate_left
    ·intro w'
     go_simp
     try with_reducible rfl
    rotate_left
    ·simp only [Act.put,List.setIfInBounds_toArray,List.set_cons_zero,List.set_cons_succ,i64_w,i32_w]
     rfl
    refine take_ (i:=2) (N:=some 37) (v:=?_) (a':=?_) #[true,true,true,false,false,true,false,true,true,true,false,true,false,false,false,false,false] rfl rfl (take_ofW HT_.out HW_.out (by kernel_rfl)) (fun _ _ _ h=>h) (Or.inl ⟨by rfl,?_⟩) hHeld ?_ ?_
    rotate_left
    ·intro w' s0
     obtain⟨s1,s2,s3⟩:=s0
     go_simp
     try with_reducible rfl
    rotate_left
    ·simp only [Act.put,List.setIfInBounds_toArray,List.set_cons_zero,List.set_cons_succ,i64_w,i32_w]
     rfl
    refine pure_ (i:=3) (N:=some 38) (v:=?_) (a':=?_) #[true,true,true,true,false,true,false,true,true,true,false,true,false,false,false,false,false] rfl rfl (any_of HT_.out (by kernel_rfl)) (fun _ _ _ h=>h) (Or.inl ⟨by rfl,?_⟩) ?_ ?_
    rotate_left
    ·intro w'
     go_simp
     try with_reducible rfl
    rotate_left
    ·simp only [Act.put,List.setIfInBounds_toArray,List.set_cons_zero,List.set_cons_succ,i64_w,i32_w]
     rfl
    refine take_ (i:=4) (N:=some 39) (v:=?_) (a':=?_) #[true,true,true,true,true,true,false,true,true,true,false,true,false,false,false,false,false] rfl rfl (take_ofW HT_.out HW_.out (by kernel_rfl)) (fun _ _ _ h=>h) (Or.inl ⟨by rfl,?_⟩) hHeld ?_ ?_
    rotate_left
    ·intro w' s0
     obtain⟨s1,s2,s3⟩:=s0
     go_simp
     try with_reducible rfl
    rotate_left
    ·simp only [Act.put,List.setIfInBounds_toArray,List.set_cons_zero,List.set_cons_succ,i64_w,i32_w]
     rfl
    refine take_ (i:=6) (N:=some 41) (v:=?_) (a':=?_) #[true,true,true,true,true,true,true,true,true,true,false,true,false,false,false,false,false] rfl rfl (take_ofW HT_.out HW_.out (by kernel_rfl)) (fun _ _ _ h=>h) (Or.inl ⟨by rfl,?_⟩) hHeld ?_ ?_
    rotate_left
    ·intro w' s0
     obtain⟨s1,s2,s3⟩:=s0
     go_simp
     try with_reducible rfl
    rotate_left
    ·simp only [Act.put,List.setIfInBounds_toArray,List.set_cons_zero,List.set_cons_succ,i64_w,i32_w]
     rfl
    refine take_ (i:=10) (N:=some 45) (v:=?_) (a':=?_) #[true,true,true,true,true,true,true,true,true,true,true,true,false,false,false,false,false] rfl rfl (take_ofW HT_.out HW_.out (by kernel_rfl)) (fun _ _ _ h=>h) (Or.inl ⟨by rfl,?_⟩) hHeld ?_ ?_
    rotate_left
    ·intro w' s0
     obtain⟨s1,s2,s3⟩:=s0
     go_simp
     try with_reducible rfl
    rotate_left
    ·simp only [Act.put,List.setIfInBounds_toArray,List.set_cons_zero,List.set_cons_succ,i64_w,i32_w]
     rfl
    refine take_ (i:=12) (N:=some 47) (v:=?_) (a':=?_) #[true,true,true,true,true,true,true,true,true,true,true,true,true,false,false,false,false] rfl rfl (take_ofW HT_.out HW_.out (by kernel_rfl)) (fun _ _ _ h=>h) (Or.inl ⟨by rfl,?_⟩) hHeld ?_ ?_
    rotate_left
    ·intro w' s0
     obtain⟨s1,s2,s3⟩:=s0
     go_simp
     try with_reducible rfl
    rotate_left
    ·simp only [Act.put,List.setIfInBounds_toArray,List.set_cons_zero,List.set_cons_succ,i64_w,i32_w]
     rfl
    refine one_ (i:=13) (N:=some 48) #[true,true,true,true,true,true,true,true,true,true,true,true,true,true,false,false,false] rfl rfl (one_of HT_.out (by kernel_rfl)) (by decide) (fun K hK=>?_)
    refine goes_ Tryz.func65 (by kernel_rfl) rfl #[.int .i64 (m:Int),.int .i64 (c:Int),.int .i64 (r:Int)] (by rfl) rfl rfl (by (try simp only [List.map_toArray,List.map_cons,List.map_nil]);first | done | rfl) ?_
    refine (km _).mono ?_
    rintro e0 w5 ⟨rfl,nd,rfl⟩
    refine⟨_,rfl,?_⟩
    refine hK.out _ _ ⟨z5,z1,z6⟩ (fun hHeld=>?_)
    clear hK K
    refine norm_ (a':=?_) ?_ ?_
    rotate_left
    ·show Act.put _ (some 48) _=_
     simp only [Act.put,List.setIfInBounds_toArray,List.set_cons_zero,List.set_cons_succ,i64_w,i32_w]
     rfl
    refine pure_ (i:=14) (N:=some 49) (v:=?_) (a':=?_) #[true,true,true,true,true,true,true,true,true,true,true,true,true,true,true,false,false] rfl rfl (any_of HT_.out (by kernel_rfl)) (fun _ _ _ h=>h) (Or.inl ⟨by rfl,?_⟩) ?_ ?_
    rotate_left
    ·intro w'
     go_simp
     try with_reducible rfl
    rotate_left
    ·simp only [Act.put,List.setIfInBounds_toArray,List.set_cons_zero,List.set_cons_succ,i64_w,i32_w]
     rfl
    refine pure_ (i:=15) (N:=some 50) (v:=?_) (a':=?_) #[true,true,true,true,true,true,true,true,true,true,true,true,true,true,true,true,false] rfl rfl (any_of HT_.out (by kernel_rfl)) (fun _ _ _ h=>h) (Or.inl ⟨by rfl,?_⟩) ?_ ?_
    rotate_left
    ·intro w'
     go_simp
     try with_reducible rfl
    rotate_left
    ·simp only [Act.put,List.setIfInBounds_toArray,List.set_cons_zero,List.set_cons_succ,i64_w,i32_w]
     rfl
    refine last_ (i:=16) (N:=none) #[true,true,true,true,true,true,true,true,true,true,true,true,true,true,true,true,true] rfl rfl (one_of HT_.out (by kernel_rfl)) (by decide) (fun K hK=>?_)
    refine skip_ (w1:=?_) (by rfl) rfl ?_ ?_
    rotate_left
    ·go_simp
     rfl
    refine hK.out _ _ ?_
    clear hK K
    refine done_ (done_of HT_.out (by kernel_rfl)) ?_
    clear z1 z3 z4 z5 z6 hHeld HT_ HW_ km e1 e2 e3 e4
    go_wp2
    go_roundw
    case rel=>first | exact⟨i+1,by go_num,by omega,⟨(HFN.out _).1⟩,⟨(HFN.out _).2.1⟩,⟨(HFN.out _).2.2⟩⟩ | ((repeat apply Exists.intro);exact⟨⟨i+1,by go_num,by omega,⟨(HFN.out _).1⟩,⟨(HFN.out _).2.1⟩,⟨(HFN.out _).2.2⟩⟩,rfl⟩)
    case measure=>show ((M:Int)-((i:Int)+1)).toNat<((M:Int)-(i:Int)).toNat;omega
  ·have:i=M:=by omega
   subst this
   go_wp2
   go_ret
   exact⟨gg,cg,q,cp,rfl,hcg,by have:=HBR.out;rwa [List.take_of_length_le (by rw [HM.out];exact Nat.le_refl _)] at this,HB.out⟩
theorem roomD_pos (v l:Nat)(hv:1<=v/\v<=40)(hl:l<4):0<roomD v l/\roomD v l<=5000:=by
 have L:=lay_at v l hv hl
 have h1:=L.tot
 have h2:=(tot_row v hv).2
 have h3:0<lvD v l*(lvC v l+lvC2 v l):=Nat.mul_pos L.d1 (by have:=L.c1;omega)
 unfold roomD
 omega
theorem room_pos (v:Nat)(hv:1<=v/\v<=40):0<roomN v/8/\roomN v/8<=5000:=by
 have L:=lay_at v 0 hv (by decide)
 have h1:=L.tot
 have h2:=(tot_row v hv).2
 have h3:0<lvD v 0*(lvC v 0+lvC2 v 0):=Nat.mul_pos L.d1 (by have:=L.c1;omega)
 omega
def symWords (v l:Nat)(ws:List Nat):List Nat:=mixedW (lvC v l) (lvD v l) (lvC2 v l) (lvE v l) fun k i=>(codeB (lvC v l) (lvD v l) (lvE v l) ws k).getD i 0
theorem symWords_lt (v l:Nat)(ws:List Nat)(hw:AllLt 8 ws):AllLt 8 (symWords v l ws):=by
 have h8:∀ k i,(codeB (lvC v l) (lvD v l) (lvE v l) ws k).getD i 0<256:=fun k i=>getD_lt (codeB_lt _ _ _ ws k hw) i
 intro x hx
 unfold symWords at hx
 rw [mixed_split] at hx
 simp only [List.mem_append,List.mem_flatMap,List.mem_map] at hx
 rcases hx with (⟨_,_,_,_,rfl⟩ | ⟨_,_,rfl⟩) | ⟨_,_,_,_,rfl⟩
 ·exact h8 _ _
 ·exact h8 _ _
 ·exact h8 _ _
theorem Brows.mono {w:World}{B B' g n:Nat}{q cp:Nat->Nat}{cf:Nat->Nat->Bool}(h:Brows w B g n q cp cf)(hb:B'<=B):Brows w B' g n q cp cf :=
 ⟨Nat.le_trans hb h.base,h.blk,fun r hr=>by obtain⟨k1,k2,k3⟩:=h.row r hr;exact⟨k1,Nat.le_trans hb k2,k3⟩,h.inj⟩
theorem bool_own {w:World}{base:Nat}{v:Value}{xs:List Bool}(h:BOwn w base v xs)(h0:0<xs.length) :
  ∃ q c,v=.slice (some ⟨q,0,none⟩) xs.length c/\q<w.heap.size/\∀ i,i<xs.length->w.cell? ⟨q,i,none⟩=some (.bool (xs.getD i false)):=by
 obtain⟨hlen,h2⟩:=h
 rcases h2 with⟨_,h3⟩ | ⟨q,c,cs,rfl,hb,hh,hc,hm,hs,ht⟩
 ·omega
 ·refine⟨q,c,rfl,Blk.lt hh,fun i hi=>?_⟩
  rw [Blk.cell hh i]
  have h5:(cs.toList.take xs.length)[i]? = (bools xs)[i]?:=by rw [Nat.mul_one] at ht;rw [ht]
  rw [List.getElem?_take_of_lt hi] at h5
  rw [<- Array.getElem?_toList,h5]
  simp [bools,List.getElem?_map,List.getElem?_eq_getElem hi,List.getD_eq_getElem?_getD]
theorem bool_own' {w:World}{base nb:Nat}{v:Value}{xs:List Bool}(h:BOwn w base v xs)(hn:xs.length=nb)(h0:0<nb) :
  ∃ q c,v=.slice (some ⟨q,0,none⟩) nb c/\q<w.heap.size/\∀ i,i<nb->w.cell? ⟨q,i,none⟩=some (.bool (xs.getD i false)):=by
 subst hn
 exact bool_own h h0
set_option maxHeartbeats 2000000 in
set_option maxRecDepth 8000 in
theorem sym19 (w:World)(A:Option Addr)(c n v l m:Nat)(segs:List F.S98)(cf:Nat->Nat->Bool)(hS:Kd.C F.k98 w A n segs)(hn:segs.length=n)(hv:1<=v/\v<=40)(hl:l<4)(hm:m<8)(hs:∀ s∈segs,SegOK s v)(hn2:n<=200)
  (hfit:(sgStream (segs.map toSg) v).length<=8*roomD v l) (hp:Ev (fun k=>F.spec_QRPatterns.f k v l m) (rowsOfB (17+4*v) cf (17+4*v))) :
  Calls Tryz.prog 19 #[.slice A n c,.int .i64 (v:Int),.int .i64 (l:Int),.int .i64 (m:Int)] w fun e w'=>∃ g cap q cp,e=.returned (.tuple #[.slice (some ⟨g,0,none⟩) (17+4*v) cap,.bool true])/\(17+4*v<=cap/\cp (17+4*v)=cap)/\
   Brows w' w.heap.size g (17+4*v) q cp (putAll (modBit (streamBits (symWords v l (dataWords (sgStream (segs.map toSg) v) (roomD v l)))) m) (way (17+4*v) (fpB v (ctrs v))) 0 cf)/\Below w.heap.size w w':=by
 have k32:=words32 w A c n v l segs hS hn hv hl hs hn2 hfit
 have hlen:=dataWords_len (sgStream (segs.map toSg) v) (roomD v l) hfit
 have hlt:=dataWords_lt (sgStream (segs.map toSg) v) (roomD v l)
 have hd:=roomD_pos v l hv hl
 have hr:=room_pos v hv
 obtain⟨ws,hws⟩:∃ ws,dataWords (sgStream (segs.map toSg) v) (roomD v l)=ws:=⟨_,rfl⟩
 rw [hws] at k32 hlen hlt ⊢
 clear hws hfit hs hS
 have K27:=Aside0.mk (fun W q cN h1 h2 h3=>split27 W v l q (roomD v l) cN ws hv hl h1 h2 hlen rfl hlt h3)
 have K26:=Aside0.mk (fun W B vo qs cs h=>mixed26 W v l B vo ws qs cs hv hl h hlen hlt)
 have hxl:(symWords v l ws).length=roomN v/8:=by unfold symWords;rw [mixed_len,(lay_at v l hv hl).tot]
 have hx8:=symWords_lt v l ws hlt
 have hsb:=streamBits_len (symWords v l ws)
 rw [hxl] at hsb
 have K29:=Aside0.mk (fun W q cN h1 h2=>bits29 W q (roomN v/8) cN (symWords v l ws) h1 h2 hxl (by omega) hx8)
 have K28:=Aside0.mk (fun W qb cb h1 h2=>mods28 W v l m qb (8*(roomN v/8)) cb (streamBits (symWords v l ws)) cf hv hm hsb h1 h2 hp)
 have HXL:=Aside0.mk hxl
 have HSB:=Aside0.mk hsb
 obtain⟨D,hD⟩:∃ D,roomD v l=D:=⟨_,rfl⟩
 obtain⟨T,hT⟩:∃ T,roomN v/8=T:=⟨_,rfl⟩
 rw [hD] at K27 k32 hd
 rw [hT] at K26 K29 K28 HXL HSB hr
 clear hlen hlt hxl hx8 hsb hD hT hp hn
 go_enter Tryz.func19,Tryz.ntmps19
 go_wp2_with (first
  | (go_at_call 32;refine k32.mono ?_;rintro e0 w1 ⟨v1,rfl,ho,hb1⟩;obtain⟨q1,c1,rfl,hq1,hc1,⟨cs1,hk1⟩,hby,_⟩:=own_bytes ho hd.1;have k27:=K27.out w1 q1 c1 hby hk1.lt hc1;have HB1:=Aside0.mk hb1;clear ho hb1 hby hk1)
  | (go_at_call 27;refine k27.mono ?_;rintro e0 w2 ⟨vo,qs,cs,rfl,hR,hb2⟩;have HB2:=Aside0.mk (HB1.out.trans (hb2.mono HB1.out.size));have k26:=K26.out w2 _ vo qs cs hR;clear hR hb2)
  | (go_at_call 26;refine k26.mono ?_;rintro e0 w3 ⟨v3,rfl,ho3,hb3⟩;have HB3:=Aside0.mk (HB2.out.trans (hb3.mono HB2.out.size));obtain⟨q3,c3,rfl,hq3,hc3,⟨cs3,hk3⟩,hby3,_⟩:=own_bytes ho3 hr.1;have k29:=K29.out w3 q3 c3 hby3 hk3.lt;clear ho3 hb3 hby3 hk3)
  | (go_at_call 29;refine k29.mono ?_;rintro e0 w4 ⟨v4,rfl,ho4,hb4⟩;have HB4:=Aside0.mk (HB3.out.trans (hb4.mono HB3.out.size));obtain⟨q4,c4,rfl,hq4,hbits⟩:=bool_own' ho4 HSB.out (by omega);have k28:=K28.out w4 q4 c4 hq4 hbits;clear ho4 hb4 hbits)
  | (go_at_call 28;with_reducible (refine k28.mono ?_);rintro e0 w5 ⟨g5,cap5,q5,cp5,rfl,hcap,hbr,hb5⟩;have HB5:=Aside0.mk (HB4.out.trans (hb5.mono HB4.out.size));have HBR5:=Aside0.mk hbr;clear hbr hb5))
 go_ret2
 exact⟨g5,cap5,q5,cp5,rfl,hcap,Brows.mono HBR5.out HB4.out.size,HB5.out⟩
def fmtBits (l m:Nat):Nat:=(fmtTab.getD (8*l+m) (0,0)).1
theorem fmtBits_lt (l m:Nat):fmtBits l m<32768:=by
 have h:∀ p∈fmtTab,p.1<32768:=by decide
 unfold fmtBits
 rw [List.getD_eq_getElem?_getD]
 cases h2:fmtTab[8*l+m]? with
 | none=>decide
 | some p=>exact h p (List.mem_of_getElem? h2)
theorem fmt_look:∀ l:Fin 4,∀ m:Fin 8,F.spec_QRFormatBits.f 60 ((l.val:Nat):Int) ((m.val:Nat):Int)=some ((fmtBits l.val m.val:Nat):Int):=by decide +kernel
theorem fmtEv (l m:Nat)(hl:l<4)(hm:m<8):Ev (fun k=>F.spec_QRFormatBits.f k (l:Int) (m:Int)) ((fmtBits l m:Nat):Int) :=
 Ev.of (F.spec_QRFormatBits.mono l m) (fmt_look ⟨l,hl⟩ ⟨m,hm⟩)
theorem fp_fmt (v r c b:Nat)(cs:List Nat)(hv:1<=v/\v<=40)(hr:r<17+4*v)(hc:c<17+4*v)(h:fmtP (17+4*(v:Int)) r c=b):fpB v cs c r=true:=by
 have h2:fmtP (17+4*(v:Int)) r c≥0:=by omega
 have h3:(r<=8/\c<=8)\/(r=8/\c≥17+4*v-8)\/(c=8/\r≥17+4*v-7):=by
  unfold fmtP at h2
  repeat' split at h2
  all_goals omega
 clear h h2
 unfold fpB inReg
 simp only [Bool.or_eq_true,Bool.and_eq_true,decide_eq_true_eq]
 omega
theorem fp_ver (v r t:Nat)(cs:List Nat)(hv:7<=v/\v<=40)(hr:r<6)(ht:t<3):fpB v cs (17+4*v-11+t) r=true:=by
 unfold fpB inReg
 simp only [Bool.or_eq_true,Bool.and_eq_true,decide_eq_true_eq]
 omega
theorem pats_put (F v:Nat)(bit:Nat->Nat×Nat->Bool)(cf:Nat->Nat->Bool)(hv:1<=v/\v<=40)(h:Pats F v (fun x y=>cf y x)) :
  Pats F v (fun x y=>putAll bit (way (17+4*v) (fpB v (ctrs v))) 0 cf y x):=by
 have ho:∀ r c,fpB v (ctrs v) c r=true->putAll bit (way (17+4*v) (fpB v (ctrs v))) 0 cf r c=cf r c:=fun r c hg=>by
  refine putAll_other _ r c _ 0 cf ?_
  intro hm
  have:=(wayF_mem _ _ _ _ _ _ hm).2.2.2
  rw [hg] at this
  cases this
 refine⟨fun r c hr hc b hb=>?_,fun h7 r t hr ht=>?_⟩
 ·show putAll _ _ _ _ r c=_
  rw [ho r c (fp_fmt v r c b _ hv hr hc hb)]
  exact h.fmt r c hr hc b hb
 ·show putAll _ _ _ _ r _=_
  rw [ho r _ (fp_ver v r t _ ⟨h7,hv.2⟩ hr ht)]
  exact h.ver h7 r t hr ht
theorem pats_fmtGo (l m v:Nat)(hl:l<4)(hm:m<8)(hv:1<=v/\v<=40)(f:Nat->Nat->Bool)(h:Pats (fmtBits l m) v f) :
  fmtGo (nacc (fat1 f) 15) (nacc (fat2 f (17+4*v)) 15) fmtTab (2147483647,0)=some (8*l+m):=by
 rw [pats_fmt1 _ v hv f h (fmtBits_lt l m),pats_fmt2 _ v hv f h (fmtBits_lt l m)]
 have:=fmt_found (8*l+m) (fmtBits l m) (fmtBits l m) (by omega) (by unfold fmtBits;rw [hd_self];omega) (by unfold fmtBits;rw [hd_self];omega)
 rw [this,fmt_snd ⟨8*l+m,by omega⟩]
theorem segB_take (c d e:Nat)(ws:List Nat)(k:Nat)(h:offB c d k+dl c d k<=ws.length):(codeB c d e ws k).take (dl c d k)=segB c d ws k:=by
 unfold codeB
 rw [List.take_left' (segB_len c d ws k h)]
theorem list_range_getD (l:List Nat)(n:Nat)(h:l.length=n):(List.range n).map (fun i=>l.getD i 0)=l:=by
 subst h
 apply List.ext_getElem
 ·simp
 ·intro i h1 h2
  simp [List.getD_eq_getElem?_getD,List.getElem?_eq_getElem h2]
theorem codeB_len (c d e:Nat)(ws:List Nat)(k:Nat)(he:1<=e)(h:offB c d k+dl c d k<=ws.length):(codeB c d e ws k).length=dl c d k+e:=by
 unfold codeB
 rw [List.length_append,segB_len c d ws k h,corrOf_len e _ he]
theorem off_le (c d c2 k:Nat)(hk:k<c+c2):offB c d k+dl c d k<=d*(c+c2)+c2:=by
 rw [<- offB_succ,<- offB_end]
 have:=offB_mono c d (k+1) (c+c2-(k+1))
 rwa [show k+1+(c+c2-(k+1))=c+c2 by omega] at this
theorem sym_block (v l:Nat)(ws:List Nat)(hv:1<=v/\v<=40)(hl:l<4)(hn:ws.length=roomD v l)(k:Nat)(hk:k<lvC v l+lvC2 v l) :
  blockWords (lvC v l) (lvD v l) (lvC2 v l) (lvE v l) (symWords v l ws) k=codeB (lvC v l) (lvD v l) (lvE v l) ws k:=by
 unfold symWords
 rw [mixed_block _ _ _ _ _ k hk]
 refine list_range_getD _ _ (codeB_len _ _ _ ws k (lay_at v l hv hl).e1 ?_)
 rw [hn]
 exact off_le _ _ _ k hk
theorem sym_clean (v l:Nat)(ws:List Nat)(hv:1<=v/\v<=40)(hl:l<4)(hn:ws.length=roomD v l)(hw:AllLt 8 ws) :
  Clean (lvC v l) (lvD v l) (lvC2 v l) (lvE v l) (symWords v l ws):=by
 refine⟨fun j hj=>?_,fun j hj i hi=>?_⟩
 ·rw [sym_block v l ws hv hl hn j hj]
  exact codeB_lt _ _ _ ws j hw
 ·rw [sym_block v l ws hv hl hn j hj]
  exact corr_root _ i _ (lay_at v l hv hl).e1 hi (segB_lt _ _ ws j hw)
theorem seg_all (c d:Nat)(ws:List Nat):∀ k,offB c d k<=ws.length->((List.range k).flatMap fun j=>segB c d ws j)=ws.take (offB c d k):=by
 intro k
 induction k with
 | zero=>intro _;simp [offB_zero]
 | succ k ih=>
  intro h
  rw [offB_succ] at h
  rw [List.range_succ,List.flatMap_append,ih (by omega),offB_succ,List.take_add]
  simp [segB]
theorem sym_data (v l:Nat)(ws:List Nat)(hv:1<=v/\v<=40)(hl:l<4)(hn:ws.length=roomD v l):symData v l (symWords v l ws)=ws:=by
 unfold symData dataOf
 have h1:((List.range (lvC v l+lvC2 v l)).flatMap fun j=>(blockWords (lvC v l) (lvD v l) (lvC2 v l) (lvE v l) (symWords v l ws) j).take (dl (lvC v l) (lvD v l) j))=(List.range (lvC v l+lvC2 v l)).flatMap fun j=>segB (lvC v l) (lvD v l) ws j:=by
  apply flatMap_alike
  intro j hj
  rw [sym_block v l ws hv hl hn j (List.mem_range.1 hj)]
  exact segB_take _ _ _ ws j (by rw [hn];exact off_le _ _ _ j (List.mem_range.1 hj))
 have h2:offB (lvC v l) (lvD v l) (lvC v l+lvC2 v l)=ws.length:=by rw [offB_end,hn];rfl
 rw [h1,seg_all _ _ ws _ (by omega),h2,List.take_length]
theorem symOK_words (v l m:Nat)(ws:List Nat)(cf:Nat->Nat->Bool)(st:PS)(hv:1<=v/\v<=40)(hl:l<4)(hm:m<8)(hn:ws.length=roomD v l)(hw:AllLt 8 ws)
  (hcf:∀ r c:Nat,r<17+4*v->c<17+4*v->CellIs ((fmtBits l m:Nat):Int) v r c (cf r c)) (hrd:Rd ws v ⟨0,[],[],false,-1,-1⟩ (some st)) :
  SymOK v (8*l+m) (cellOf (rowsOfB (17+4*v) (putAll (modBit (streamBits (symWords v l ws)) m) (way (17+4*v) (fpB v (ctrs v))) 0 cf) (17+4*v))) st/\
  wordsOf v m (cellOf (rowsOfB (17+4*v) (putAll (modBit (streamBits (symWords v l ws)) m) (way (17+4*v) (fpB v (ctrs v))) 0 cf) (17+4*v)))=symWords v l ws:=by
 have hxl:(symWords v l ws).length=roomN v/8:=by unfold symWords;rw [mixed_len,(lay_at v l hv hl).tot]
 have hx8:=symWords_lt v l ws hw
 have hP:=(pats_put (fmtBits l m) v (modBit (streamBits (symWords v l ws)) m) cf hv (pats_of_cells (fmtBits l m) v hv (fmtBits_lt l m) cf hcf)).congr (h:=cellOf (rowsOfB (17+4*v) (putAll (modBit (streamBits (symWords v l ws)) m) (way (17+4*v) (fpB v (ctrs v))) 0 cf) (17+4*v))) (fun x y hx hy=>(cellOf_rows _ _ x y hx hy).symm) hv.1
 have hW:wordsOf v m (cellOf (rowsOfB (17+4*v) (putAll (modBit (streamBits (symWords v l ws)) m) (way (17+4*v) (fpB v (ctrs v))) 0 cf) (17+4*v)))=symWords v l ws:=by
  refine words_said v m _ _ hv hxl hx8 ?_
  intro i p hp
  have hb:=wayF_lt _ _ p (List.mem_of_getElem? hp) (by omega) (by omega)
  rw [cellOf_rows _ _ _ _ hb.2 hb.1,putAll_at _ (way (17+4*v) (fpB v (ctrs v))) 0 cf (wayF_nodup _ _ _ _ _) i p hp,Nat.zero_add]
  rfl
 have e1:(8*l+m)/8=l:=by omega
 have e2:(8*l+m)%8=m:=by omega
 refine⟨⟨hv,pats_verOK _ v hv _ hP,by omega,pats_fmtGo l m v hl hm hv _ hP,?_,?_⟩,hW⟩
 ·rw [e1,e2,hW]
  exact sym_clean v l ws hv hl hn hw
 ·rw [e1,e2,hW,sym_data v l ws hv hl hn]
  exact hrd
theorem rd_words (v room:Nat)(segs:List Sg)(hs:∀ s∈segs,s.Ok v)(hfit:(sgStream segs v).length<=8*room) :
  ∃ p,Rd (dataWords (sgStream segs v) room) v ⟨0,[],[],false,-1,-1⟩ (some ⟨p,sgText false segs,sgSegs segs,false,-1,-1⟩):=by
 obtain⟨post,h1,h2⟩:=dataWords_says (sgStream segs v) room hfit
 obtain⟨p,hp⟩:=rd_segs (dataWords (sgStream segs v) room) v post h2 segs [] ⟨0,[],[],false,-1,-1⟩ hs (by rw [h1,List.nil_append]) rfl
 exact⟨p,by simpa using hp⟩
set_option maxHeartbeats 1000000 in
theorem words32_no (w:World)(A:Option Addr)(c n v l:Nat)(segs:List F.S98)(hS:Kd.C F.k98 w A n segs)(hn:segs.length=n)(hv:1<=v/\v<=40)(hl:l<4)(hs:∀ s∈segs,SegOK s v)(hn2:n<=200)
  (hfit:¬ (sgStream (segs.map toSg) v).length<=8*roomD v l) :
  Calls Tryz.prog 32 #[.slice A n c,.int .i64 (v:Int),.int .i64 (l:Int)] w fun e w'=>e=.returned (.tuple #[.slice none 0 0,.bool false])/\Below w.heap.size w w':=by
 have k1:=stream67 w A c n v segs hS hn hv hs hn2
 have K22:=Aside0.mk (fun W=>words22 W v l hv hl)
 obtain⟨bits,hbits⟩:∃ bits,sgStream (segs.map toSg) v=bits:=⟨_,rfl⟩
 have hroom:=(roomD_pos v l hv hl).2
 obtain⟨room,hr⟩:∃ room,roomD v l=room:=⟨_,rfl⟩
 rw [hbits] at k1 hfit
 rw [hr] at K22 hfit hroom
 obtain⟨m,hm⟩:∃ m,bits.length=m:=⟨_,rfl⟩
 rw [hm] at hfit
 have hfit2:8*room<m:=by omega
 have HM:=Aside0.mk hm
 clear hS hn hs hbits hr hv hl hm hfit
 go_enter Tryz.func32,Tryz.ntmps32
 go_wp2_with fail
 refine k1.mono ?_
 rintro e w1 ⟨v1,rfl,hO1,hB1⟩
 obtain⟨A1,c1,hv1⟩:=hO1.shape
 rw [HM.out] at hv1
 subst hv1
 have HB1:=Aside0.mk hB1
 clear hO1 hB1 k1
 go_wp2_with fail
 refine (K22.out w1).mono ?_
 rintro e w2 ⟨rfl,hB2⟩
 have HB2:=Aside0.mk (HB1.out.trans (hB2.mono HB1.out.size))
 clear hB2
 go_wp2_with fail
 go_ret2
 exact⟨rfl,HB2.out⟩
set_option maxHeartbeats 1000000 in
theorem sym19_no (w:World)(A:Option Addr)(c n v l m:Nat)(segs:List F.S98)(hS:Kd.C F.k98 w A n segs)(hn:segs.length=n)(hv:1<=v/\v<=40)(hl:l<4)(hs:∀ s∈segs,SegOK s v)(hn2:n<=200)
  (hfit:¬ (sgStream (segs.map toSg) v).length<=8*roomD v l) :
  Calls Tryz.prog 19 #[.slice A n c,.int .i64 (v:Int),.int .i64 (l:Int),.int .i64 (m:Int)] w fun e w'=>e=.returned (.tuple #[.slice none 0 0,.bool false])/\Below w.heap.size w w':=by
 have k32:=words32_no w A c n v l segs hS hn hv hl hs hn2 hfit
 clear hfit hs hS hn hv hl
 go_enter Tryz.func19,Tryz.ntmps19
 go_wp2_with (go_at_call 32;refine k32.mono ?_;rintro e0 w1 ⟨rfl,hb1⟩;have HB1:=Aside0.mk hb1;clear hb1)
 go_ret2
 exact⟨rfl,HB1.out⟩
theorem Brows.reads {w:World}{B g n:Nat}{q cp:Nat->Nat}{cf:Nat->Nat->Bool}(h:Brows w B g n q cp cf)(hn:n<=1000):BRows w (some ⟨g,0,none⟩) (rowsOfB n cf n):=by
 have hl:(rowsOfB n cf n).length=n:=rowsOfB_len n cf n
 unfold BRows
 rw [hl]
 refine⟨hl,by omega,fun _=>⟨_,rfl,fun j p hj=>?_⟩⟩
 have hjl:j<n:=by
  have:=(List.getElem?_eq_some_iff.1 hj).1
  rwa [hl] at this
 rw [rd_row n cf j hjl] at hj
 obtain rfl:=Option.some.inj hj
 obtain⟨k1,k2,k3,_,k5⟩:=h.row j hjl
 have hrl:(rowOfB n cf j).length=n:=by simp [rowOfB]
 refine⟨[.slice (some ⟨q j,0,none⟩) n (cp j)],rfl,⟨some ⟨q j,0,none⟩,cp j,by rw [hrl],by rw [hrl];exact k3,?_⟩,?_⟩
 ·refine Kd.C_of_reads (enc:=Value.bool) (d:=false) (h1:=fun _=>rfl) ⟨by rw [hrl],by rw [hrl];omega,fun hp=>⟨_,rfl,fun i hi=>?_⟩⟩
  rw [hrl] at hi
  rw [add_off,Nat.zero_add,k5 i hi,List.getD_eq_getElem?_getD]
  unfold rowOfB
  rw [List.getElem?_map,List.getElem?_range hi]
  rfl
 ·intro i u hu
  cases i with
  | zero=>
   obtain rfl:Value.slice (some ⟨q j,0,none⟩) n (cp j)=u:=by simpa using hu
   show w.cell? (Addr.add ⟨g,0,none⟩ (j*1+0))=_
   rw [add_off,Nat.zero_add,Nat.mul_one,Nat.add_zero]
   exact k1
  | succ i=>simp at hu
theorem decodeSym (w:World)(B g cap v l m:Nat)(q cp:Nat->Nat)(ws:List Nat)(cf:Nat->Nat->Bool)(st:PS)(hcap:17+4*v<=cap)
  (hbr:Brows w B g (17+4*v) q cp (putAll (modBit (streamBits (symWords v l ws)) m) (way (17+4*v) (fpB v (ctrs v))) 0 cf)) (hv:1<=v/\v<=40) (hl:l<4) (hm:m<8) (hn:ws.length=roomD v l) (hw:AllLt 8 ws)
  (hcf:∀ r c:Nat,r<17+4*v->c<17+4*v->CellIs ((fmtBits l m:Nat):Int) v r c (cf r c)) (hrd:Rd ws v ⟨0,[],[],false,-1,-1⟩ (some st)) :
  Calls Tryz.prog 12 #[.slice (some ⟨g,0,none⟩) (17+4*v) cap] w fun e w'=>∃ x,e=.returned (.tuple #[x,.bool true])/\DecIs w' w.heap.size l ws st x/\Below w.heap.size w w':=by
 obtain⟨S,hW⟩:=symOK_words v l m ws cf st hv hl hm hn hw hcf hrd
 have e1:(8*l+m)/8=l:=by omega
 have e2:(8*l+m)%8=m:=by omega
 have k:=said12 w v (8*l+m) (some ⟨g,0,none⟩) cap _ st S (hbr.reads (by omega)) (by rw [rowsOfB_len];exact hcap) (rowsOfB_square _ _ (by omega) (by omega))
 rw [e1,e2,hW,sym_data v l ws hv hl hn] at k
 exact k
theorem info4s:(Tryz.prog.info? 4).map (fun i=>(i.zero,i.size,i.bytes))=some (some (.bool false),1,1):=by kernel_rfl
theorem make_bools (n:Nat)(h:n<=1000000)(w:World):(Instr.makeSlice 45 (.int .i64 (n:Int)) (.int .i64 (n:Int))).run Tryz.prog w=.ok (.slice (some ⟨w.heap.size,0,none⟩) n n) (w.alloc (.cells (bools (List.replicate n false)).toArray 4)):=by
 obtain⟨i,hi,hz,hs,hb⟩:=info_parts info4s
 have:=run_make_rowN (P:=Tryz.prog) 45 4 i (.bool false) Tryz.underlying45 hi hz .i64 .i64 n n (Nat.le_refl _) (by rw [hb];omega) (by omega) w
 have e:madeCells (Value.bool false).cells (n*1)=(bools (List.replicate n false)).toArray:=by
  apply Array.toList_inj.1
  rw [Nat.mul_one]
  exact (toList_madeCells_one _ _).trans (by simp [bools])
 rw [this,hs,e]
theorem rows_reads {w:World}{g m n:Nat}{q cp:Nat->Nat}{cf:Nat->Nat->Bool}(h:∀ r,r<m->w.cell? ⟨g,r,none⟩=some (.slice (some ⟨q r,0,none⟩) n (cp r))/\n<=cp r/\∀ c,c<n->w.cell? ⟨q r,c,none⟩=some (.bool (cf r c)))(hm:m<=1000)(hn:n<=1000) :
  BRows w (some ⟨g,0,none⟩) (rowsOfB n cf m):=by
 have hl:(rowsOfB n cf m).length=m:=rowsOfB_len n cf m
 unfold BRows
 rw [hl]
 refine⟨hl,by omega,fun _=>⟨_,rfl,fun j p hj=>?_⟩⟩
 have hjl:j<m:=by
  have:=(List.getElem?_eq_some_iff.1 hj).1
  rwa [hl] at this
 rw [show (rowsOfB n cf m)[j]? = some (rowOfB n cf j) by unfold rowsOfB;rw [List.getElem?_map,List.getElem?_range hjl];rfl] at hj
 obtain rfl:=Option.some.inj hj
 obtain⟨k1,k3,k5⟩:=h j hjl
 have hrl:(rowOfB n cf j).length=n:=by simp [rowOfB]
 refine⟨[.slice (some ⟨q j,0,none⟩) n (cp j)],rfl,⟨some ⟨q j,0,none⟩,cp j,by rw [hrl],by rw [hrl];exact k3,?_⟩,?_⟩
 ·refine Kd.C_of_reads (enc:=Value.bool) (d:=false) (h1:=fun _=>rfl) ⟨by rw [hrl],by rw [hrl];omega,fun hp=>⟨_,rfl,fun i hi=>?_⟩⟩
  rw [hrl] at hi
  rw [add_off,Nat.zero_add,k5 i hi,List.getD_eq_getElem?_getD]
  unfold rowOfB
  rw [List.getElem?_map,List.getElem?_range hi]
  rfl
 ·intro i u hu
  cases i with
  | zero=>
   obtain rfl:Value.slice (some ⟨q j,0,none⟩) n (cp j)=u:=by simpa using hu
   show w.cell? (Addr.add ⟨g,0,none⟩ (j*1+0))=_
   rw [add_off,Nat.zero_add,Nat.mul_one,Nat.add_zero]
   exact k1
  | succ i=>simp at hu
structure ORows (w:World)(B:Nat)(v:Value)(n m:Nat)(q cp:Nat->Nat)(cf:Nat->Nat->Bool):Prop where
 own:w.ownsRow B 45 1 v m ((List.range m).map fun r=>.slice (some ⟨q r,0,none⟩) n (cp r))
 row:∀ r,r<m->n<=cp r/\(∃ ys,Blk w (q r) 4 ys)/\∀ c,c<n->w.cell? ⟨q r,c,none⟩=some (.bool (cf r c))
theorem ORows.of {w:World}{B g n cap:Nat}{q cp:Nat->Nat}{cf:Nat->Nat->Bool}(h:Brows w B g n q cp cf)(hc:n<=cap/\cp n=cap):ORows w B (.slice (some ⟨g,0,none⟩) n cap) n n q cp cf:=by
 obtain⟨cells,hb,hz,hm⟩:=h.blk
 rw [hc.2] at hz hm
 refine⟨⟨by simp,.inr ⟨g,cap,cells,rfl,h.base,hb,hc.1,hm,by omega,?_⟩⟩,fun r hr=>?_⟩
 ·rw [Nat.mul_one]
  apply List.ext_getElem?
  intro i
  by_cases hi:i<n
  ·rw [List.getElem?_take_of_lt hi,List.getElem?_map,List.getElem?_range hi]
   have:=(h.row i hi).1
   rw [Blk.cell hb i] at this
   rw [Array.getElem?_toList]
   exact this
  ·rw [List.getElem?_eq_none (by simp;omega),List.getElem?_eq_none (by simp;omega)]
 ·obtain⟨_,_,k3,k4,k5⟩:=h.row r hr
  exact⟨k3,k4,k5⟩
theorem ORows.below {w w':World}{B n m:Nat}{v:Value}{q cp:Nat->Nat}{cf:Nat->Nat->Bool}(h:ORows w B v n m q cp cf)(hb:Below w.heap.size w w'):ORows w' B v n m q cp cf:=by
 refine⟨own_under h.own hb,fun r hr=>?_⟩
 obtain⟨k1,⟨ys,k2⟩,k3⟩:=h.row r hr
 exact⟨k1,⟨ys,Blk.below k2 hb (Blk.lt k2)⟩,fun c hc=>(hb.cell (p:=⟨q r,c,none⟩) (Blk.lt k2)).trans (k3 c hc)⟩
theorem ORows.congr {w:World}{B n m:Nat}{v:Value}{q cp:Nat->Nat}{cf cg:Nat->Nat->Bool}(h:ORows w B v n m q cp cf)(he:∀ r c,r<m->cf r c=cg r c):ORows w B v n m q cp cg :=
 ⟨h.own,fun r hr=>by obtain⟨k1,k2,k3⟩:=h.row r hr;exact⟨k1,k2,fun c hc=>by rw [k3 c hc,he r c hr]⟩⟩
theorem ORows.step {W w1:World}{B p c n m:Nat}{vo v1:Value}{q cp:Nat->Nat}{cf:Nat->Nat->Bool}{ys:Array Value}(h:ORows W B vo n m q cp cf)(hc:n<=c)(hy:Blk W p 4 ys)(hb:∀ x,x<n->W.cell? ⟨p,x,none⟩=some (.bool (cf m x)))
  (ho:w1.ownsRow B 45 1 v1 (m+1) (((List.range m).map fun r=>(.slice (some ⟨q r,0,none⟩) n (cp r):Value))++[.slice (some ⟨p,0,none⟩) n c])) (hg:W.grownBy w1 vo.ownBlock) :
  ORows w1 B v1 n (m+1) (fun k=>if k<m then q k else p) (fun k=>if k<m then cp k else c) cf:=by
 refine⟨?_,fun k hk=>?_⟩
 ·have e:((List.range (m+1)).map fun k=>(.slice (some ⟨if k<m then q k else p,0,none⟩) n (if k<m then cp k else c):Value))=((List.range m).map fun k=>(.slice (some ⟨q k,0,none⟩) n (cp k):Value))++[.slice (some ⟨p,0,none⟩) n c]:=by
   rw [List.range_succ,List.map_append,List.map_cons,List.map_nil,if_neg (by omega),if_neg (by omega)]
   congr 1
   apply List.map_congr_left
   intro k hk
   have:=List.mem_range.1 hk
   simp only [if_pos this]
  rw [e]
  exact ho
 ·have mv:∀ (g:Nat) (zs:Array Value),Blk W g 4 zs->w1.heap[g]? = W.heap[g]?:=fun g zs hz=>hg.block g hz.lt (own_ne h.own hz (by decide))
  have mc:∀ (g:Nat) (zs:Array Value) (x:Nat),Blk W g 4 zs->w1.cell? ⟨g,x,none⟩=W.cell? ⟨g,x,none⟩:=fun g zs x hz=>by
   unfold World.cell?
   rw [mv g zs hz]
  by_cases hkn:k<m
  ·simp only [if_pos hkn]
   obtain⟨h2,⟨zs,h3⟩,h4⟩:=h.row k hkn
   exact⟨h2,⟨zs,(mv _ zs h3).trans h3⟩,fun x hx=>(mc _ zs x h3).trans (h4 x hx)⟩
  ·obtain rfl:k=m:=by omega
   simp only [if_neg hkn]
   exact⟨hc,⟨ys,(mv _ ys hy).trans hy⟩,fun x hx=>(mc _ ys x hy).trans (hb x hx)⟩
theorem ORows.reads {w:World}{B n m:Nat}{v:Value}{q cp:Nat->Nat}{cf:Nat->Nat->Bool}(h:ORows w B v n m q cp cf)(hm:m<=1000)(h0:0<m)(hn:n<=1000) :
  ∃ g c,v=.slice (some ⟨g,0,none⟩) m c/\m<=c/\BRows w (some ⟨g,0,none⟩) (rowsOfB n cf m):=by
 obtain⟨_,ho⟩:=h.own
 rcases ho with⟨_,h3⟩ | ⟨g,c,cs,rfl,hb,hh,hc,hmx,hs,ht⟩
 ·omega
 ·refine⟨g,c,rfl,hc,rows_reads (q:=q) (cp:=cp) (fun r hr=>?_) hm hn⟩
  obtain⟨k1,_,k3⟩:=h.row r hr
  refine⟨?_,k1,k3⟩
  have hk:Blk w g 45 cs:=hh
  rw [Blk.cell hk r]
  have h5:(cs.toList.take m)[r]? = ((List.range m).map fun r=>(.slice (some ⟨q r,0,none⟩) n (cp r):Value))[r]?:=by rw [Nat.mul_one] at ht;rw [ht]
  rw [List.getElem?_take_of_lt hr,List.getElem?_map,List.getElem?_range hr] at h5
  rw [<- Array.getElem?_toList,h5]
  rfl
theorem crop_bad (w:World)(A:Option Addr)(c n m:Nat)(cf:Nat->Nat->Bool)(hr:BRows w A (rowsOfB n cf m))(hc:m<=c)(hm:1<=m/\m<=1000)(hn:1<=n/\n<=1000)(h:BadSize m) :
  Calls Tryz.prog 12 #[.slice A m c] w fun e w'=>e=.returned (.tuple #[zeroDec,.bool false])/\Below w.heap.size w w':=by
 have hrow:∀ y,y<m->((rowsOfB n cf m).getD y []).length=n:=by
  intro y hy
  unfold rowsOfB
  rw [List.getD_eq_getElem?_getD,List.getElem?_map,List.getElem?_range hy]
  simp [rowOfB]
 exact qrDecode_badR w A c _ n m hr (by rw [rowsOfB_len];exact hc) (rowsOfB_len _ _ _) (hrow 0 (by omega)) (fun y hy=>by rw [hrow y hy];omega) hm.1 hm.2 hn.1 hn.2 h
theorem own_lower {w:World}{base base' size n:Nat}{e:TypeId}{v:Value}{xs:List Value}(h:w.ownsRow base e size v n xs)(hb:base'<=base):w.ownsRow base' e size v n xs:=by
 obtain⟨h1,h2⟩:=h
 refine⟨h1,?_⟩
 rcases h2 with h2 | ⟨g,cap,cur,a1,a2,a3⟩
 ·exact .inl h2
 ·exact .inr ⟨g,cap,cur,a1,Nat.le_trans hb a2,a3⟩
theorem ORows.lower {w:World}{B B' n m:Nat}{v:Value}{q cp:Nat->Nat}{cf:Nat->Nat->Bool}(h:ORows w B v n m q cp cf)(hb:B'<=B):ORows w B' v n m q cp cf:=⟨own_lower h.own hb,h.row⟩
theorem bools_blk {w:World}{g n:Nat}(h:Blk w g 4 (bools (List.replicate n false)).toArray)(x:Nat)(hx:x<n):w.cell? ⟨g,x,none⟩=some (.bool false):=by
 rw [Blk.cell h x]
 simp [bools,hx]
theorem i8_wf {n:Int}(h:(Lit.int .i8 n).wf=true):-128<=n/\n<=127:=by
 unfold Lit.wf at h
 simp [IntKind.min,IntKind.max,IntKind.bits,IntKind.signed] at h
 omega
set_option maxHeartbeats 8000000 in
set_option maxRecDepth 8000 in
theorem crop_law (w:World)(A:Option Addr)(c:Nat)(l:List F.S98)(a b m:Nat)(r:Int)(hS:Kd.C F.k98 w A l.length l)(hc:l.length<=c)(hin:∀ s∈l,SegIn s)(ha:a<256)(hb:b<256)(hm:m<256)(hr:-128<=r/\r<=127) :
  Calls Tryz.prog 4 #[.slice A l.length c,.int .u8 (a:Int),.int .u8 (b:Int),.int .u8 (m:Int),.int .i8 r] w fun e w'=>e=.returned (.bool true)/\Below w.heap.size w w':=by
 obtain⟨ft,hft⟩:=fits8_some l
 obtain⟨k,hk⟩:=hft.rounds
 have c16:=F.laws_zzFits8.calls k A c l ft w hS hc hk
 have HS:=Aside0.mk hS
 have HIN:=Aside0.mk hin
 clear hft hk
 cases ft with
 | false=>
  clear hS hc hin
  go_enter Tryz.func4,Tryz.ntmps4
  go_wp2_with (go_at_call 16;refine c16.mono ?_;rintro e w' ⟨rfl,hd⟩)
  go_ret
  exact⟨rfl,hd⟩
 | true=>
  have c11:=fun W=>F.laws_qrVersion.calls (a:Int) _ W (version_some a ha)
  have c18:=fun W=>F.laws_qrLevel.calls (b:Int) _ W (level_some b hb)
  have c20:=fun W=>F.laws_qrMask.calls (m:Int) _ W (mask_some m hm)
  obtain⟨v,hv⟩:∃ v,1+a%40=v:=⟨_,rfl⟩
  obtain⟨lv,hlv⟩:∃ lv,b%4=lv:=⟨_,rfl⟩
  obtain⟨mk,hmk⟩:∃ mk,m%8=mk:=⟨_,rfl⟩
  rw [hv] at c11
  rw [hlv] at c18
  rw [hmk] at c20
  have hv1:1<=v/\v<=40:=by omega
  have hl4:lv<4:=by omega
  have hm8:mk<8:=by omega
  have C11:=Aside0.mk c11
  have C18:=Aside0.mk c18
  have C20:=Aside0.mk c20
  obtain⟨segs,hsegs⟩:∃ segs,segsOf 2 100 l=segs:=⟨_,rfl⟩
  have hok:∀ s∈segs,SegOK s v/\s.f1.all isAsc=true:=by
   intro s hs
   rw [<- hsegs] at hs
   obtain⟨s0,hs0,rfl⟩:=List.mem_map.1 hs
   exact tseg_ok 100 s0 v (hin s0 (List.mem_of_mem_take hs0)) (by omega)
  have hsl:segs.length<=2:=by rw [<- hsegs];unfold segsOf;rw [List.length_map,List.length_take];omega
  have C17:=Aside0.mk (fun (W:World) (hb2:Below w.heap.size w W)=>by
   have h:=seg17 W A c l.length 2 100 l (Kd.C_below hS hb2) rfl hin (by omega) (by omega)
   rw [hsegs] at h
   exact h)
  have HOK:=Aside0.mk hok
  have HASC:=Aside0.mk (show ascS segs=true by unfold ascS;rw [List.all_eq_true];exact fun s hs=>(hok s hs).2)
  have HBD:=Aside0.mk (show ∀ s∈segs,s.f1.length<=10000/\∀ x∈s.f1,0<=x/\x<=255 from fun s hs=>⟨by have:=(hok s hs).1.short;omega,(hok s hs).1.by_⟩)
  obtain⟨sn,hsn⟩:∃ sn,segs.length=sn:=⟨_,rfl⟩
  have HSN:=Aside0.mk hsn
  have hsl':sn<=2:=by omega
  clear hS hc hin hv hlv hmk c11 c18 c20 hsegs hok hsn ha hb hm
  by_cases hfit:(sgStream (segs.map toSg) v).length<=8*roomD v lv
  ·obtain⟨cf,hcf,hpat⟩:=patterns_run _ (lv:Int) (mk:Int) (fmtEv lv mk hl4 hm8) v hv1
   obtain⟨p,hrd⟩:=rd_words v (roomD v lv) (segs.map toSg) (fun s hs=>by obtain⟨s0,hs0,rfl⟩:=List.mem_map.1 hs;exact (HOK.out s0 hs0).1.ok) hfit
   have hlen:=dataWords_len (sgStream (segs.map toSg) v) (roomD v lv) hfit
   have hlt:=dataWords_lt (sgStream (segs.map toSg) v) (roomD v lv)
   obtain⟨st,hst⟩:∃ st,st=PS.mk p (sgText false (segs.map toSg)) (sgSegs (segs.map toSg)) false (-1) (-1):=⟨_,rfl⟩
   rw [<- hst] at hrd
   have HTX:=Aside0.mk (show st.out=flatS segs by rw [hst];exact flat_toSg segs)
   have HSG:=Aside0.mk (show st.segs=segs4 segs by rw [hst];exact segs4_toSg segs (fun s hs=>(HOK.out s hs).1.mode))
   have C19:=Aside0.mk (fun (W:World) (A':Option Addr) (c':Nat) (h:Kd.C F.k98 W A' sn segs)=>sym19 W A' c' sn v lv mk segs cf h HSN.out hv1 hl4 hm8 (fun s hs=>(HOK.out s hs).1) (by omega) hfit hpat)
   obtain⟨ws,hws⟩:∃ ws,dataWords (sgStream (segs.map toSg) v) (roomD v lv)=ws:=⟨_,rfl⟩
   rw [hws] at hrd hlen hlt C19
   have C12:=Aside0.mk (fun (W:World) (B g cap:Nat) (q cp:Nat->Nat) (h1:17+4*v<=cap) (h2:Brows W B g (17+4*v) q cp (putAll (modBit (streamBits (symWords v lv ws)) mk) (way (17+4*v) (fpB v (ctrs v))) 0 cf))=>decodeSym W B g cap v lv mk q cp ws cf st h1 h2 hv1 hl4 hm8 hlen hlt hcf hrd)
   have C21:=Aside0.mk (fun (W:World) (A':Option Addr) (c' base:Nat) (d:Value) (h1:DecIs W base lv ws st d) (h2:Kd.C F.k98 W A' sn segs)=>says21 W A' c' sn lv base segs ws st d h1 h2 HSN.out HBD.out (by omega) hl4 HTX.out HSG.out HASC.out)
   clear hcf hpat hrd hlen hlt hst hws hfit HTX HSG HOK HASC HBD
   obtain⟨N,hN⟩:∃ N,17+4*v=N:=⟨_,rfl⟩
   rw [hN] at C19 C12
   obtain⟨mz,hmz⟩:∃ mz,putAll (modBit (streamBits (symWords v lv ws)) mk) (way N (fpB v (ctrs v))) 0 cf=mz:=⟨_,rfl⟩
   rw [hmz] at C19 C12
   have HNV:=Aside0.mk hN
   have hNb:21<=N/\N<=177:=by omega
   clear hN hmz
   have hcs:(r=0\/r < -3\/3<r)\/((∃ k:Nat,r=-(k:Int)/\1<=k/\k<=3)\/∃ k:Nat,r=(k:Int)/\1<=k/\k<=3):=by
    by_cases h1:r=0\/r < -3\/3<r
    ·exact .inl h1
    ·by_cases h2:r<0
     ·exact .inr (.inl ⟨(-r).toNat,by omega,by omega,by omega⟩)
     ·exact .inr (.inr ⟨r.toNat,by omega,by omega,by omega⟩)
   obtain⟨hr1,hr2⟩:=hr
   rcases hcs with (h0 | h0 | h0) | (⟨k,hk,hk1,hk2⟩ | ⟨k,hk,hk1,hk2⟩)
   ·subst h0
    go_enter Tryz.func4,Tryz.ntmps4
    go_wp2_with fail
    refine c16.mono ?_
    rintro e w1 ⟨rfl,hb1⟩
    have HB1:=Aside0.mk hb1
    clear hb1
    go_wp2_with fail
    refine (C17.out w1 HB1.out).mono ?_
    rintro e w2 ⟨v2,rfl,hR2,hb2⟩
    obtain⟨A2,c2,rfl,hc2,hC2⟩:=Kd.R_reads hR2
    rw [HSN.out] at hc2 hC2 ⊢
    have HB2:=Aside0.mk (HB1.out.trans (hb2.mono HB1.out.size))
    have HC2:=Aside0.mk hC2
    clear hR2 hb2 hC2
    go_wp2_with fail
    refine (C18.out w2).mono ?_
    rintro e w3 ⟨rfl,hd3⟩
    have HB3:=Aside0.mk (HB2.out.trans (hd3.below.mono HB2.out.size))
    have HC3:=Aside0.mk (Kd.C_below HC2.out hd3.below)
    clear hd3
    go_wp2_with fail
    refine (C11.out w3).mono ?_
    rintro e w4 ⟨rfl,hd4⟩
    have HB4:=Aside0.mk (HB3.out.trans (hd4.below.mono HB3.out.size))
    have HC4:=Aside0.mk (Kd.C_below HC3.out hd4.below)
    clear hd4
    go_wp2_with fail
    refine (C20.out w4).mono ?_
    rintro e w5 ⟨rfl,hd5⟩
    have HB5:=Aside0.mk (HB4.out.trans (hd5.below.mono HB4.out.size))
    have HC5:=Aside0.mk (Kd.C_below HC4.out hd5.below)
    clear hd5
    go_wp2_with fail
    refine (C19.out w5 A2 c2 HC5.out).mono ?_
    rintro e w6 ⟨g6,cap6,q6,cp6,rfl,hcap6,hbr6,hb6⟩
    have HB6:=Aside0.mk (HB5.out.trans (hb6.mono HB5.out.size))
    clear hb6 hbr6
    go_wp2_with fail
    go_ret
    exact⟨rfl,HB6.out⟩
   ·have ht0:(r==0)=false:=beq_eq_false_iff_ne.2 (by omega)
    go_enter Tryz.func4,Tryz.ntmps4
    go_wp2_with fail
    refine c16.mono ?_
    rintro e w1 ⟨rfl,hb1⟩
    have HB1:=Aside0.mk hb1
    clear hb1
    go_wp2_with fail
    refine (C17.out w1 HB1.out).mono ?_
    rintro e w2 ⟨v2,rfl,hR2,hb2⟩
    obtain⟨A2,c2,rfl,hc2,hC2⟩:=Kd.R_reads hR2
    rw [HSN.out] at hc2 hC2 ⊢
    have HB2:=Aside0.mk (HB1.out.trans (hb2.mono HB1.out.size))
    have HC2:=Aside0.mk hC2
    clear hR2 hb2 hC2
    go_wp2_with fail
    refine (C18.out w2).mono ?_
    rintro e w3 ⟨rfl,hd3⟩
    have HB3:=Aside0.mk (HB2.out.trans (hd3.below.mono HB2.out.size))
    have HC3:=Aside0.mk (Kd.C_below HC2.out hd3.below)
    clear hd3
    go_wp2_with fail
    refine (C11.out w3).mono ?_
    rintro e w4 ⟨rfl,hd4⟩
    have HB4:=Aside0.mk (HB3.out.trans (hd4.below.mono HB3.out.size))
    have HC4:=Aside0.mk (Kd.C_below HC3.out hd4.below)
    clear hd4
    go_wp2_with fail
    refine (C20.out w4).mono ?_
    rintro e w5 ⟨rfl,hd5⟩
    have HB5:=Aside0.mk (HB4.out.trans (hd5.below.mono HB4.out.size))
    have HC5:=Aside0.mk (Kd.C_below HC4.out hd5.below)
    clear hd5
    go_wp2_with fail
    refine (C19.out w5 A2 c2 HC5.out).mono ?_
    rintro e w6 ⟨g6,cap6,q6,cp6,rfl,hcap6,hbr6,hb6⟩
    have HB6:=Aside0.mk (HB5.out.trans (hb6.mono HB5.out.size))
    clear hb6 hbr6
    go_wp2_with fail
    go_ret
    exact⟨rfl,HB6.out⟩
   ·have ht0:(r==0)=false:=beq_eq_false_iff_ne.2 (by omega)
    have ht1:¬ r < -3:=by omega
    go_enter Tryz.func4,Tryz.ntmps4
    go_wp2_with fail
    refine c16.mono ?_
    rintro e w1 ⟨rfl,hb1⟩
    have HB1:=Aside0.mk hb1
    clear hb1
    go_wp2_with fail
    refine (C17.out w1 HB1.out).mono ?_
    rintro e w2 ⟨v2,rfl,hR2,hb2⟩
    obtain⟨A2,c2,rfl,hc2,hC2⟩:=Kd.R_reads hR2
    rw [HSN.out] at hc2 hC2 ⊢
    have HB2:=Aside0.mk (HB1.out.trans (hb2.mono HB1.out.size))
    have HC2:=Aside0.mk hC2
    clear hR2 hb2 hC2
    go_wp2_with fail
    refine (C18.out w2).mono ?_
    rintro e w3 ⟨rfl,hd3⟩
    have HB3:=Aside0.mk (HB2.out.trans (hd3.below.mono HB2.out.size))
    have HC3:=Aside0.mk (Kd.C_below HC2.out hd3.below)
    clear hd3
    go_wp2_with fail
    refine (C11.out w3).mono ?_
    rintro e w4 ⟨rfl,hd4⟩
    have HB4:=Aside0.mk (HB3.out.trans (hd4.below.mono HB3.out.size))
    have HC4:=Aside0.mk (Kd.C_below HC3.out hd4.below)
    clear hd4
    go_wp2_with fail
    refine (C20.out w4).mono ?_
    rintro e w5 ⟨rfl,hd5⟩
    have HB5:=Aside0.mk (HB4.out.trans (hd5.below.mono HB4.out.size))
    have HC5:=Aside0.mk (Kd.C_below HC4.out hd5.below)
    clear hd5
    go_wp2_with fail
    refine (C19.out w5 A2 c2 HC5.out).mono ?_
    rintro e w6 ⟨g6,cap6,q6,cp6,rfl,hcap6,hbr6,hb6⟩
    have HB6:=Aside0.mk (HB5.out.trans (hb6.mono HB5.out.size))
    clear hb6 hbr6
    go_wp2_with fail
    go_ret
    exact⟨rfl,HB6.out⟩
   ·subst hk
    have ht0:(-(k:Int)==0)=false:=beq_eq_false_iff_ne.2 (by omega)
    have ht1:¬ -(k:Int) < -3:=by omega
    have ht2:¬ 3 < -(k:Int):=by omega
    have ht3:-(k:Int)<0:=by omega
    have hd1:decide (3<(k:Int))=false:=decide_eq_false (by omega)
    have hd2:decide (3 < -(k:Int))=false:=decide_eq_false (by omega)
    clear hr1 hr2
    go_enter Tryz.func4,Tryz.ntmps4
    go_wp2_with fail
    refine c16.mono ?_
    rintro e w1 ⟨rfl,hb1⟩
    have HB1:=Aside0.mk hb1
    clear hb1
    go_wp2_with fail
    refine (C17.out w1 HB1.out).mono ?_
    rintro e w2 ⟨v2,rfl,hR2,hb2⟩
    obtain⟨A2,c2,rfl,hc2,hC2⟩:=Kd.R_reads hR2
    rw [HSN.out] at hc2 hC2 ⊢
    have HB2:=Aside0.mk (HB1.out.trans (hb2.mono HB1.out.size))
    have HC2:=Aside0.mk hC2
    clear hR2 hb2 hC2
    go_wp2_with fail
    refine (C18.out w2).mono ?_
    rintro e w3 ⟨rfl,hd3⟩
    have HB3:=Aside0.mk (HB2.out.trans (hd3.below.mono HB2.out.size))
    have HC3:=Aside0.mk (Kd.C_below HC2.out hd3.below)
    clear hd3
    go_wp2_with fail
    refine (C11.out w3).mono ?_
    rintro e w4 ⟨rfl,hd4⟩
    have HB4:=Aside0.mk (HB3.out.trans (hd4.below.mono HB3.out.size))
    have HC4:=Aside0.mk (Kd.C_below HC3.out hd4.below)
    clear hd4
    go_wp2_with fail
    refine (C20.out w4).mono ?_
    rintro e w5 ⟨rfl,hd5⟩
    have HB5:=Aside0.mk (HB4.out.trans (hd5.below.mono HB4.out.size))
    have HC5:=Aside0.mk (Kd.C_below HC4.out hd5.below)
    clear hd5
    go_wp2_with fail
    refine (C19.out w5 A2 c2 HC5.out).mono ?_
    rintro e w6 ⟨g6,cap6,q6,cp6,rfl,hcap6,hbr6,hb6⟩
    have HB6:=Aside0.mk (HB5.out.trans (hb6.mono HB5.out.size))
    have HC6:=Aside0.mk (Kd.C_below HC5.out hb6)
    have HOR6:=Aside0.mk (ORows.of hbr6 hcap6)
    have HBR6:=Aside0.mk hbr6
    clear hb6 hbr6
    go_wp2_with fail
    refine (C12.out w6 _ g6 cap6 q6 cp6 hcap6.1 HBR6.out).mono ?_
    rintro e w7 ⟨d,rfl,hd7,hb7⟩
    have HB7:=Aside0.mk (HB6.out.trans (hb7.mono HB6.out.size))
    have HB67:=Aside0.mk hb7
    have HC7:=Aside0.mk (Kd.C_below HC6.out hb7)
    obtain⟨Ar,cr,As,cs,hdv,h1,h2⟩:=hd7
    obtain⟨t,ht⟩:∃ t,strOfNums st.out=t:=⟨_,rfl⟩
    obtain⟨nr,hnr⟩:∃ nr,ws.length=nr:=⟨_,rfl⟩
    obtain⟨ns,hns⟩:∃ ns,st.segs.length=ns:=⟨_,rfl⟩
    obtain⟨md,hmd⟩:∃ md:Int,(if st.fc then 3 else 1)=md:=⟨_,rfl⟩
    obtain⟨sq,hsq⟩:∃ sq,st.sq=sq:=⟨_,rfl⟩
    obtain⟨par,hpar⟩:∃ par,st.par=par:=⟨_,rfl⟩
    obtain⟨nm,hnm⟩:∃ nm,lvName lv=nm:=⟨_,rfl⟩
    have HD7:=Aside0.mk (show DecIs w7 w6.heap.size lv ws st d from ⟨Ar,cr,As,cs,hdv,h1,h2⟩)
    rw [ht,hnr,hns,hmd,hsq,hpar,hnm] at hdv
    subst hdv
    obtain⟨w8,hw8⟩:∃ w8,w8=w7.alloc (.cells #[.string t,.slice Ar nr cr,.slice As ns cs,.string nm,.int .i64 0,.int .i64 sq,.int .i64 par,.int .i64 md] 29):=⟨_,rfl⟩
    have HW8:=Aside0.mk hw8
    have HB8:=Aside0.mk (show Below w.heap.size w w8 by rw [hw8];exact HB7.out.alloc HB7.out.size _)
    have HL8:=Aside0.mk (show Below w7.heap.size w7 w8 by rw [hw8];exact below_alloc (Below.refl _ _) _)
    have HK8:=Aside0.mk (show Blk w8 w7.heap.size 29 #[.string t,.slice Ar nr cr,.slice As ns cs,.string nm,.int .i64 0,.int .i64 sq,.int .i64 par,.int .i64 md] by rw [hw8];exact Blk.new _ _ _)
    have HD8:=Aside0.mk (HD7.out.below HL8.out)
    have HC8:=Aside0.mk (Kd.C_below HC7.out HL8.out)
    clear hw8 h1 h2 ht hnr hns hmd hsq hpar hnm hb7
    go_wp2_with fail
    rw [<- HW8.out]
    have e0:=HK8.out.cell 0
    have e1:=HK8.out.cell 1
    have e2:=HK8.out.cell 2
    have e3:=HK8.out.cell 3
    have e4:=HK8.out.cell 4
    have e5:=HK8.out.cell 5
    have e6:=HK8.out.cell 6
    have e7:=HK8.out.cell 7
    have k21:=C21.out w8 A2 c2 _ _ HD8.out HC8.out
    have HOR8:=Aside0.mk ((HOR6.out.below HB67.out).below HL8.out)
    have HBR8:=Aside0.mk ((HBR6.out.below HB67.out (Nat.le_refl _)).below HL8.out (Nat.le_refl _))
    go_wp2_with (go_at_call 21;with_reducible (refine k21.mono ?_);rintro e w9 ⟨rfl,hb9⟩;have HB9:=Aside0.mk (HB8.out.trans (hb9.mono HB8.out.size));have HOR9:=Aside0.mk (HOR8.out.below hb9);have HBR9:=Aside0.mk (HBR8.out.below hb9 (Nat.le_refl _));clear hb9)
    obtain⟨M,hM⟩:∃ M,((N:Int)+-(k:Int)).toNat=M:=⟨_,rfl⟩
    rw [hM]
    have hMN:M+k=N:=by omega
    clear hM
    have hbs:BadSize M:=.inr (by have:=HNV.out;omega)
    go_loopw [13,76] (fun v13 v76 wr=>v76=.int .i64 0/\v13=.slice (some ⟨g6,0,none⟩) M cap6/\Aside0 (wr=w9)) (fun _ _ _=>0)
    case atStart=>exact⟨rfl,rfl,⟨rfl⟩⟩
    case round=>
     obtain⟨rfl,rfl,HW⟩:=hrel
     have hw9:=HW.out
     subst hw9
     have k12:=crop_bad wr (some ⟨g6,0,none⟩) cap6 N M mz (rows_reads (q:=q6) (cp:=cp6) (fun r hr=>by obtain⟨a1,_,a3,_,a5⟩:=HBR9.out.row r (by omega);exact⟨a1,a3,a5⟩) (by omega) (by omega)) (by have:=hcap6.1;omega) (by omega) (by omega) hbs
     clear hbs hMN
     go_wp2_with fail
     with_reducible (refine k12.mono ?_)
     rintro e w10 ⟨rfl,hb10⟩
     have HB10:=Aside0.mk (HB9.out.trans (hb10.mono HB9.out.size))
     clear hb10 k12
     go_wp2_with fail
     go_ret
     exact⟨rfl,HB10.out⟩
   ·subst hk
    have ht0:((k:Int)==0)=false:=beq_eq_false_iff_ne.2 (by omega)
    have ht1:¬ (k:Int) < -3:=by omega
    have ht2:¬ 3<(k:Int):=by omega
    have ht3:¬ (k:Int)<0:=by omega
    have hd1:decide ((k:Int) < -3)=false:=decide_eq_false (by omega)
    have hd2:decide (3<(k:Int))=false:=decide_eq_false (by omega)
    clear hr1 hr2
    go_enter Tryz.func4,Tryz.ntmps4
    go_wp2_with fail
    refine c16.mono ?_
    rintro e w1 ⟨rfl,hb1⟩
    have HB1:=Aside0.mk hb1
    clear hb1
    go_wp2_with fail
    refine (C17.out w1 HB1.out).mono ?_
    rintro e w2 ⟨v2,rfl,hR2,hb2⟩
    obtain⟨A2,c2,rfl,hc2,hC2⟩:=Kd.R_reads hR2
    rw [HSN.out] at hc2 hC2 ⊢
    have HB2:=Aside0.mk (HB1.out.trans (hb2.mono HB1.out.size))
    have HC2:=Aside0.mk hC2
    clear hR2 hb2 hC2
    go_wp2_with fail
    refine (C18.out w2).mono ?_
    rintro e w3 ⟨rfl,hd3⟩
    have HB3:=Aside0.mk (HB2.out.trans (hd3.below.mono HB2.out.size))
    have HC3:=Aside0.mk (Kd.C_below HC2.out hd3.below)
    clear hd3
    go_wp2_with fail
    refine (C11.out w3).mono ?_
    rintro e w4 ⟨rfl,hd4⟩
    have HB4:=Aside0.mk (HB3.out.trans (hd4.below.mono HB3.out.size))
    have HC4:=Aside0.mk (Kd.C_below HC3.out hd4.below)
    clear hd4
    go_wp2_with fail
    refine (C20.out w4).mono ?_
    rintro e w5 ⟨rfl,hd5⟩
    have HB5:=Aside0.mk (HB4.out.trans (hd5.below.mono HB4.out.size))
    have HC5:=Aside0.mk (Kd.C_below HC4.out hd5.below)
    clear hd5
    go_wp2_with fail
    refine (C19.out w5 A2 c2 HC5.out).mono ?_
    rintro e w6 ⟨g6,cap6,q6,cp6,rfl,hcap6,hbr6,hb6⟩
    have HB6:=Aside0.mk (HB5.out.trans (hb6.mono HB5.out.size))
    have HC6:=Aside0.mk (Kd.C_below HC5.out hb6)
    have HOR6:=Aside0.mk (ORows.of hbr6 hcap6)
    have HBR6:=Aside0.mk hbr6
    clear hb6 hbr6
    go_wp2_with fail
    refine (C12.out w6 _ g6 cap6 q6 cp6 hcap6.1 HBR6.out).mono ?_
    rintro e w7 ⟨d,rfl,hd7,hb7⟩
    have HB7:=Aside0.mk (HB6.out.trans (hb7.mono HB6.out.size))
    have HB67:=Aside0.mk hb7
    have HC7:=Aside0.mk (Kd.C_below HC6.out hb7)
    obtain⟨Ar,cr,As,cs,hdv,h1,h2⟩:=hd7
    obtain⟨t,ht⟩:∃ t,strOfNums st.out=t:=⟨_,rfl⟩
    obtain⟨nr,hnr⟩:∃ nr,ws.length=nr:=⟨_,rfl⟩
    obtain⟨ns,hns⟩:∃ ns,st.segs.length=ns:=⟨_,rfl⟩
    obtain⟨md,hmd⟩:∃ md:Int,(if st.fc then 3 else 1)=md:=⟨_,rfl⟩
    obtain⟨sq,hsq⟩:∃ sq,st.sq=sq:=⟨_,rfl⟩
    obtain⟨par,hpar⟩:∃ par,st.par=par:=⟨_,rfl⟩
    obtain⟨nm,hnm⟩:∃ nm,lvName lv=nm:=⟨_,rfl⟩
    have HD7:=Aside0.mk (show DecIs w7 w6.heap.size lv ws st d from ⟨Ar,cr,As,cs,hdv,h1,h2⟩)
    rw [ht,hnr,hns,hmd,hsq,hpar,hnm] at hdv
    subst hdv
    obtain⟨w8,hw8⟩:∃ w8,w8=w7.alloc (.cells #[.string t,.slice Ar nr cr,.slice As ns cs,.string nm,.int .i64 0,.int .i64 sq,.int .i64 par,.int .i64 md] 29):=⟨_,rfl⟩
    have HW8:=Aside0.mk hw8
    have HB8:=Aside0.mk (show Below w.heap.size w w8 by rw [hw8];exact HB7.out.alloc HB7.out.size _)
    have HL8:=Aside0.mk (show Below w7.heap.size w7 w8 by rw [hw8];exact below_alloc (Below.refl _ _) _)
    have HK8:=Aside0.mk (show Blk w8 w7.heap.size 29 #[.string t,.slice Ar nr cr,.slice As ns cs,.string nm,.int .i64 0,.int .i64 sq,.int .i64 par,.int .i64 md] by rw [hw8];exact Blk.new _ _ _)
    have HD8:=Aside0.mk (HD7.out.below HL8.out)
    have HC8:=Aside0.mk (Kd.C_below HC7.out HL8.out)
    clear hw8 h1 h2 ht hnr hns hmd hsq hpar hnm hb7
    go_wp2_with fail
    rw [<- HW8.out]
    have e0:=HK8.out.cell 0
    have e1:=HK8.out.cell 1
    have e2:=HK8.out.cell 2
    have e3:=HK8.out.cell 3
    have e4:=HK8.out.cell 4
    have e5:=HK8.out.cell 5
    have e6:=HK8.out.cell 6
    have e7:=HK8.out.cell 7
    have k21:=C21.out w8 A2 c2 _ _ HD8.out HC8.out
    have HOR8:=Aside0.mk ((HOR6.out.below HB67.out).below HL8.out)
    have HBR8:=Aside0.mk ((HBR6.out.below HB67.out (Nat.le_refl _)).below HL8.out (Nat.le_refl _))
    go_wp2_with (go_at_call 21;with_reducible (refine k21.mono ?_);rintro e w9 ⟨rfl,hb9⟩;have HB9:=Aside0.mk (HB8.out.trans (hb9.mono HB8.out.size));have HOR9:=Aside0.mk (HOR8.out.below hb9);have HBR9:=Aside0.mk (HBR8.out.below hb9 (Nat.le_refl _));clear hb9)
    obtain⟨cg,hcg⟩:∃ cg:Nat->Nat->Bool,cg=fun r c=>if r<N then mz r c else false:=⟨_,rfl⟩
    have HCG:=Aside0.mk hcg
    have HOR0:=Aside0.mk ((HOR9.out.congr (cg:=cg) (fun r c hr=>by rw [hcg];simp only [if_pos hr])).lower HB5.out.size)
    have hbs:BadSize (N+k):=.inr (by have:=HNV.out;omega)
    have HBS:=Aside0.mk hbs
    clear hcg hbs
    go_loopw [13,76] (fun v13 v76 wr=>∃ (i M:Nat) (q cp:Nat->Nat),v76=.int .i64 (i:Int)/\i<=k/\M=N+i/\Aside0 (ORows wr w.heap.size v13 N M q cp cg)/\Aside0 (Below w.heap.size w wr)) (fun _ v76 _=>(k-intOf v76).toNat)
    case atStart=>exact⟨0,N,q6,cp6,rfl,Nat.zero_le _,rfl,HOR0,HB9⟩
    case round=>
     clear HB9 HOR0 HOR9 HBR9 HOR8 HBR8
     obtain⟨i,M,q,cp,rfl,hi,hMi,HOR,HB⟩:=hrel
     have HMI:=Aside0.mk hMi
     have hM2:M<=180:=by omega
     clear hMi
     by_cases hik:i<k
     ·have hmk:=make_bools N (by omega) wr
      obtain⟨wm,hwm⟩:∃ wm,wm=wr.alloc (.cells (bools (List.replicate N false)).toArray 4):=⟨_,rfl⟩
      rw [<- hwm] at hmk
      have HLM:=Aside0.mk (show Below wr.heap.size wr wm by rw [hwm];exact below_alloc (Below.refl _ _) _)
      have HBM:=Aside0.mk (HB.out.trans (HLM.out.mono HB.out.size))
      have HORM:=Aside0.mk (HOR.out.below HLM.out)
      have HKM:=Aside0.mk (show Blk wm wr.heap.size 4 (bools (List.replicate N false)).toArray by rw [hwm];exact Blk.new _ _ _)
      clear hwm
      go_wp2_with ((with_reducible refine gate_builtin (b:=.append) (xs:=#[.tmp 78,.tmp 81]) rfl ?_);at_builtin;refine print_append (w0:=w) w.heap.size rfl (.tmp 78) (.tmp 81) 22 45 (.slice none 0 0) 24 rfl Tryz.underlying22 F.info45 rfl (by decide) _ ((List.range M).map fun r=>(.slice (some ⟨q r,0,none⟩) N (cp r):Value)) (.slice (some ⟨wr.heap.size,0,none⟩) N N) rfl rfl rfl ?bO HBM.out HBM.out.size ?bL ?_;(case bO=>(rw [List.length_map,List.length_range];exact HORM.out.own));(case bL=>(rw [List.length_map,List.length_range];omega));intro v5 w10 ho5 hb5 hg5 hat5;rw [List.length_append,List.length_map,List.length_range,List.length_singleton] at ho5;have HO5:=Aside0.mk (HORM.out.step (Nat.le_refl _) HKM.out (fun x hx=>by rw [bools_blk HKM.out x hx,HCG.out];simp only [if_neg (show ¬ M<N by have:=HMI.out;omega)]) ho5 hg5);have HB5x:=Aside0.mk hb5;clear ho5 hb5 hg5 hat5)
      clear hmk
      go_roundw
      case rel=>exact⟨i+1,M+1,_,_,by go_num,by omega,by have:=HMI.out;omega,HO5,HB5x⟩
      case measure=>simp [intOf]<;>omega
     ·have hie:i=k:=by omega
      have hMk:M=N+k:=by have:=HMI.out;omega
      subst hMk
      obtain⟨gx,cx,rfl,hcx,hrx⟩:=HOR.out.reads (by omega) (by omega) (by omega)
      have k12:=crop_bad wr (some ⟨gx,0,none⟩) cx N (N+k) cg hrx hcx (by omega) (by omega) HBS.out
      clear hrx
      go_wp2_with fail
      with_reducible (refine k12.mono ?_)
      rintro e w10 ⟨rfl,hb10⟩
      have HB10:=Aside0.mk (HB.out.trans (hb10.mono HB.out.size))
      clear hb10 k12
      go_wp2_with fail
      go_ret
      exact⟨rfl,HB10.out⟩
  ·have C19:=Aside0.mk (fun (W:World) (A':Option Addr) (c':Nat) (h:Kd.C F.k98 W A' sn segs)=>sym19_no W A' c' sn v lv mk segs h HSN.out hv1 hl4 (fun s hs=>(HOK.out s hs).1) (by omega) hfit)
   clear hfit HOK HASC HBD
   go_enter Tryz.func4,Tryz.ntmps4
   go_wp2_with fail
   refine c16.mono ?_
   rintro e w1 ⟨rfl,hb1⟩
   have HB1:=Aside0.mk hb1
   clear hb1
   go_wp2_with fail
   refine (C17.out w1 HB1.out).mono ?_
   rintro e w2 ⟨v2,rfl,hR2,hb2⟩
   obtain⟨A2,c2,rfl,hc2,hC2⟩:=Kd.R_reads hR2
   rw [HSN.out] at hc2 hC2 ⊢
   have HB2:=Aside0.mk (HB1.out.trans (hb2.mono HB1.out.size))
   have HC2:=Aside0.mk hC2
   clear hR2 hb2 hC2
   go_wp2_with fail
   refine (C18.out w2).mono ?_
   rintro e w3 ⟨rfl,hd3⟩
   have HB3:=Aside0.mk (HB2.out.trans (hd3.below.mono HB2.out.size))
   have HC3:=Aside0.mk (Kd.C_below HC2.out hd3.below)
   clear hd3
   go_wp2_with fail
   refine (C11.out w3).mono ?_
   rintro e w4 ⟨rfl,hd4⟩
   have HB4:=Aside0.mk (HB3.out.trans (hd4.below.mono HB3.out.size))
   have HC4:=Aside0.mk (Kd.C_below HC3.out hd4.below)
   clear hd4
   go_wp2_with fail
   refine (C20.out w4).mono ?_
   rintro e w5 ⟨rfl,hd5⟩
   have HB5:=Aside0.mk (HB4.out.trans (hd5.below.mono HB4.out.size))
   have HC5:=Aside0.mk (Kd.C_below HC4.out hd5.below)
   clear hd5
   go_wp2_with fail
   refine (C19.out w5 A2 c2 HC5.out).mono ?_
   rintro e w6 ⟨rfl,hb6⟩
   have HB6:=Aside0.mk (HB5.out.trans (hb6.mono HB5.out.size))
   clear hb6
   go_wp2_with fail
   go_ret
   exact⟨rfl,HB6.out⟩
end Go.Proofs.YtgccjgpdjkhpdaaGreat.B
