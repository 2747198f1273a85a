import Derived.Test.YtgccjgpdjkhpdaaGreatVErrors29
open Go.Proofs.YtgccjgpdjkhpdaaGreatW.PrintWords.Aside0 renaming mk→Mw
open Nat renaming le_trans→Mx,zero_le→My
open List renaming length_take→Mz,take_of_length_le→MA,getElem?_eq_getElem→MB,length_map→MC,getD_eq_getElem?_getD→MD,length_append→ME,getElem_mem→MG,take_succ_eq_append_getElem→MH,mem_of_getElem?→MI
open Int renaming toNat_natCast→MF
/-! Own texts of this claim, part 39. -/
namespace Go.Proofs.YtgccjgpdjkhpdaaGreat.B
open Go.RowKit Go.Proofs.YtgccjgpdjkhpdaaGreatW.PrintWords Go.Proofs.YtgccjgpdjkhpdaaGreatW.PrintLast Go.Proofs.YtgccjgpdjkhpdaaGreatW.PrintMore
set_option linter.unusedVariables false
set_option linter.unusedSimpArgs false
theorem jH {w wx:World}{a:Addr}{v:Value}(hb:Below w.heap.size w wx)(h:w.cell? a=some v):wx.cell? a=some v:=(hb.cell (World.block_lt_of_cell? _ _ h)).trans h
def iQ (m:Int):Int:=if m%3=0 then 1 else if m%3=1 then 2 else 4
def bX (md x:Int):Int:=if md=1 then 48+x%10 else if md=2 then fQ (x%45).toNat else 32+x%95
def cV (long:Nat)(s:F.bl):F.bl:=⟨iQ s.f0,(s.f1.take long).map (bX (iQ s.f0))⟩
theorem um (m:Int):iQ m=1\/iQ m=2\/iQ m=4:=by
 unfold iQ
 split
 ·exact .inl rfl
 split
 ·exact .inr (.inl rfl)
 exact .inr (.inr rfl)
def nV (most long:Nat)(l:List F.bl):List F.bl:=(l.take most).map (cV long)
theorem JP (m r:Int)(h:r=Int.tmod (Int.tmod m 3+3) 3):r=m%3/\0<=r/\r<3:=by
 have h1:Int.tmod m 3=m%3\/(Int.tmod m 3=m%3-3/\m%3≠0):=by
  by_cases hm:m<0;rotate_left
  ·left;exact Int.tmod_eq_emod_of_nonneg (by omega)
  have:=Int.tmod_eq_emod (a:=m) (b:=3);rw [this]
  split<;>omega
 have h2:0<=Int.tmod m 3+3:=by omega
 rw [Int.tmod_eq_emod_of_nonneg h2] at h;omega
theorem un {w w':World}{s base n:Nat}{v:Value}{hs:List Value}{cs:Array Value}(hown:w.ownsRow base 5 1 v n hs)(h:Blk w s 98 cs)(ht:af w w' s):w'.ownsRow base 5 1 v n hs :=
 ei hown fun k hk=>ht.block k (by rintro rfl;exact own_ne hown h (by decide) hk.symm)
theorem nW:(Tryz.prog.info? 98).map (fun i=>(i.zero,i.size,i.bytes))=some (some (.agg #[.int .i64 0,.slice none 0 0]),2,32):=by kernel_rfl
theorem nX {w:World}{base base' n c:Nat}{A:Option Addr}{ys:List Int}(md:Int)(ho:w.ownsRow base 5 1 (.slice A n c) n (ac .u8 ys))(hn:ys.length=n)(hb:base'<=base) :
  F.dU.M w base' (fun k=>(Value.slice A n c).ownBlock=some k) ⟨md,ys⟩ [.int .i64 md,.slice A n c]:=by
 subst hn;exact F.Es w base' _ ⟨md,ys⟩ (Kd.fz (Kd.ov ho (fun k hk=>hk)) hb)
set_option maxHeartbeats 4000000 in
set_option maxRecDepth 8000 in
theorem JQ (w:World)(A:Option Addr)(c n most long:Nat)(l:List F.bl)(hl:Kd.C F.dU w A n l)(hn:l.length=n)(hin:∀ s∈l,o9 s)(hm:most<=10)(hlg:long<=1000) :
  Calls Tryz.prog 17 #[.slice A n c,.int .i64 (most:Int),.int .i64 (long:Int)] w fun e w'=>∃ v',e=.returned v'/\Kd.R F.dU 98 w' w.heap.size (fun k=>w.heap.size<=k) v' (nV most long l)/\Below w.heap.size w w':=by
 have HC:=Mw hl;have HN:=Mw hn;have HS:=Mw hin;have HMO:=Mw hm;have HLO:=Mw hlg;clear hl hn hin hm hlg
 go_enter Tryz.func17,Tryz.ntmps17
 go_wp2_with fail
 go_loopw [7,15] (fun v7 v15 wr=>∃ i:Nat,v15=.int .i64 (i:Int)/\i<=n/\i<=most/\Aside0 (Kd.R F.dU 98 wr w.heap.size (fun k=>w.heap.size<=k) v7 ((l.take i).map (cV long)))/\Aside0 (Below w.heap.size w wr)) (fun _ v15 _=>(n-intOf v15).toNat)
 case atStart=>exact⟨0,rfl,My _,My _,⟨by rw [List.take_zero];exact Kd.oq _ _ _ _ _⟩,⟨Below.refl _ _⟩⟩
 case round=>
  obtain⟨i,rfl,hi,him,HO,HB⟩:=hrel;obtain⟨wo,hwo⟩:∃ wo,wo=wr:=⟨_,rfl⟩;subst hwo;have hi10:i<=10:=by have:=HMO.out;omega
  by_cases hin:i<n;rotate_left
  ·have hie:i=n:=by omega
   have HE:=Mw (show (l.take i).map (cV long)=nV most long l by unfold nV;rw [MA (show l.length<=i by rw [HN.out];omega),MA (show l.length<=most by rw [HN.out];omega)])
   clear hie
   go_wp2_with fail
   go_ret
   exact⟨_,rfl,by rw [<- HE.out];exact HO.out,HB.out⟩
  obtain⟨ad,A1,c1,e0,r0,r1,l1,g1⟩:=F.nl HC.out (i:Int) (by omega) (by omega);rw [MF] at r0 r1;obtain⟨s,hss⟩:∃ s,F.cC l i=s:=⟨_,rfl⟩;rw [hss] at r0 r1 l1 g1;have hgi:l[i]? = some s:=by
   have hlt:i<l.length:=by rw [HN.out];exact hin
   rw [MB hlt,<- hss];unfold F.cC;rw [MF,MD,MB hlt];rfl
  have hso:=HS.out s (MI hgi);have HTK:=Mw (show (l.take (i+1)).map (cV long)=(l.take i).map (cV long)++[cV long s] by
   rw [List.take_add_one,hgi];simp)
  obtain⟨m,hm⟩:∃ m,s.f0=m:=⟨_,rfl⟩;obtain⟨k,hk⟩:∃ k,s.f1.length=k:=⟨_,rfl⟩;rw [hm] at r0;rw [hk] at r1 l1 g1;subst e0;replace r0:=jH HB.out r0;replace r1:=jH HB.out r1;have HSO:=Mw hso;have HM:=Mw hm;have HK:=Mw hk;have HG:=Mw (Kd.bB g1 HB.out);have HLN:=Mw (show ((l.take i).map (cV long)).length=i by rw [MC,Mz,HN.out];omega)
  obtain⟨out,hout⟩:∃ out,(l.take i).map (cV long)=out:=⟨_,rfl⟩;rw [hout] at HO HTK HLN;have HOU:=Mw hout;obtain⟨Ao,co,rfl,ho1,ho2⟩:=Kd.kB HO.out;rw [HLN.out] at HO ho1 ho2 ⊢;obtain⟨wa,hwa⟩:∃ wa,wa=wo.alloc (.cells #[.int .i64 m,.slice A1 k c1] 98):=⟨_,rfl⟩;have HWA:=Mw hwa;have HBA:=Mw (show Below w.heap.size w wa by rw [hwa];exact HB.out.alloc HB.out.size _)
  have HSB:=Mw (show Blk wa wo.heap.size 98 #[.int .i64 m,.slice A1 k c1] by rw [hwa];exact Blk.new _ _ _)
  clear hso hss hgi hm hk hwa g1 hout ho2;by_cases hmm:i=most
  ·subst hmm
   go_wp2_with fail
   go_ret
   exact⟨_,rfl,by unfold nV;rw [HOU.out];exact Kd.eC HO.out (ai (Below.refl _ _) _),by rw [<- HWA.out];exact HBA.out⟩
  have hbf:((i:Int)==(most:Int))=false:=beq_eq_false_iff_ne.2 (by omega);have hidx:=JP m _ rfl;have HID:=Mw hidx;obtain⟨md,hmd⟩:∃ md,iQ m=md:=⟨_,rfl⟩;have i0:∀ W,(Instr.index 100 (.agg #[.int .i64 1,.int .i64 2,.int .i64 4]) (.int .i64 0)).run Tryz.prog W=.ok (.int .i64 1) W:=fun _=>by kernel_rfl
  have i1:∀ W,(Instr.index 100 (.agg #[.int .i64 1,.int .i64 2,.int .i64 4]) (.int .i64 1)).run Tryz.prog W=.ok (.int .i64 2) W:=fun _=>by kernel_rfl
  have i2:∀ W,(Instr.index 100 (.agg #[.int .i64 1,.int .i64 2,.int .i64 4]) (.int .i64 2)).run Tryz.prog W=.ok (.int .i64 4) W:=fun _=>by kernel_rfl
  have idx:∀ W,(Instr.index 100 (.agg #[.int .i64 1,.int .i64 2,.int .i64 4]) (.int .i64 ((wrap64 (m.tmod 3+3)).tmod 3))).run Tryz.prog W=.ok (.int .i64 md) W:=by
   intro W;obtain⟨h1,h2,h3⟩:=hidx;have hw:wrap64 (m.tmod 3+3)=m.tmod 3+3:=by
    have h4:-3<m.tmod 3/\m.tmod 3<3:=by
     have:=Int.tmod_eq_emod (a:=m) (b:=3);rw [this]
     split<;>omega
    unfold wrap64;omega
   rw [hw,h1,<- hmd];unfold iQ;have h4:m%3=0\/m%3=1\/m%3=2:=by omega
   rcases h4 with h4 | h4 | h4
   ·rw [h4,if_pos rfl];exact i0 W
   ·rw [h4,if_neg (by decide),if_pos rfl];exact i1 W
   rw [h4,if_neg (by decide),if_neg (by decide)];exact i2 W
  have HMD:=Mw hmd;have hcs:=um m;rw [hmd] at hcs;clear hidx hmd i0 i1 i2;obtain⟨wb,hwb⟩:∃ wb,wb=wa.alloc (.cells #[.int .i64 md,.slice none 0 0] 98):=⟨_,rfl⟩;have HWB:=Mw hwb;obtain⟨p,hp⟩:∃ p,p=wo.heap.size+1:=⟨_,rfl⟩;have HP:=Mw hp;have HPB:=Mw (show Blk wb p 98 #[.int .i64 md,.slice none 0 0] by have h:=Blk.new wa 98 #[.int .i64 md,.slice none 0 0];rw [show wa.heap.size=wo.heap.size+1 by rw [HWA.out];simp] at h;rw [hwb,hp];exact h)
  have HLB:=Mw (show Below wo.heap.size wo wb by rw [hwb,HWA.out];exact ai (ai (Below.refl _ _) _) _)
  have HPW:=Mw (show wo.heap.size<=p by omega);have HSB2:=Mw (show Blk wb wo.heap.size 98 #[.int .i64 m,.slice A1 k c1] by rw [hwb];exact Blk.below HSB.out (ai (Below.refl wa.heap.size wa) _) HSB.out.lt)
  have c0':=HSB2.out.cell 1;clear hwb hp;rcases hcs with hcs | hcs | hcs
  ·subst hcs
   go_wp2_with fail
   rw [<- HWA.out,<- HWB.out,<- HP.out];clear r0 r1 c0' idx
   go_loopw [34] (fun v34 wq=>∃ (j c2:Nat) (A2:Option Addr),v34=.int .i64 (j:Int)/\j<=k/\j<=long/\Aside0 (Blk wq p 98 #[.int .i64 1,.slice A2 j c2])/\Aside0 (wq.ownsRow wo.heap.size 5 1 (.slice A2 j c2) j (ac .u8 ((s.f1.take j).map (bX 1))))/\Aside0 (Below wo.heap.size wo wq)) (fun v34 _=>(k-intOf v34).toNat)
   case atStart=>exact⟨0,0,none,rfl,My _,My _,HPB,⟨⟨rfl,.inl ⟨rfl,rfl⟩⟩⟩,HLB⟩
   case round=>
    clear HPB HLB HSB HSB2 HWA HWB HBA;obtain⟨j,c2,A2,rfl,hj,hjl,HPB,HO2,HLB⟩:=hrel;have hj9:j<=1000:=by have:=HLO.out;omega
    have b0:=HPB.out.cell 0;have b1:=HPB.out.cell 1;have HBQ:=Mw (HB.out.trans (HLB.out.mono HB.out.size));have fin:∀ q:Act->World->Prop,True:=fun _=>trivial
    by_cases hjk:j<k;rotate_left
    ·have hjk2:j=k:=by omega
     subst hjk2;have HLL:=Mw (show ((s.f1.take j).map (bX 1)).length=j by rw [MC,Mz];have:=HK.out;omega)
     obtain⟨ys,hys⟩:∃ ys,(s.f1.take j).map (bX 1)=ys:=⟨_,rfl⟩;rw [hys] at HO2 HLL;have HYS:=Mw hys;clear hys;have HTS:=Mw (show cV long s=⟨1,ys⟩ by unfold cV;rw [HM.out,HMD.out,<- HYS.out,MA (show s.f1.length<=long by rw [HK.out];exact hjl),MA (show s.f1.length<=j by rw [HK.out];exact Nat.le_refl _)])
     have HO9:=Mw (Kd.eC HO.out HLB.out);have HNEW:=Mw (show ∀ k',(Value.slice A2 j c2).ownBlock=some k'->w.heap.size<=k'/\some k'≠(Value.slice Ao i co).ownBlock from fun k' hk'=>⟨Mx HB.out.size (cF HO2.out k' hk'),fun he=>by have h1:=Kd.mZ HO.out k' he.symm;have h2:=cF HO2.out k' hk';omega⟩)
     have HMA:=Mw (nX 1 HO2.out HLL.out HB.out.size)
     go_wp2_with ((with_reducible refine bD (b:=.append) (xs:=#[.tmp 65,.tmp 67]) rfl ?_);at_builtin;refine Kd.ml F.dU (w0:=w) w.heap.size rfl (.tmp 65) (.tmp 67) 38 98 (.agg #[.int .i64 0,.slice none 0 0]) 32 rfl Tryz.underlying38 nW rfl (by decide) (by decide) (.slice Ao i co) out ⟨1,ys⟩ [.int .i64 1,.slice A2 j c2] (fun k=>w.heap.size<=k) (fun k=>(Value.slice A2 j c2).ownBlock=some k) rfl rfl HMA.out HNEW.out (fun k hk=>Mx HBQ.out.size hk) HO9.out HBQ.out HBQ.out.size ?bL ?_;(case bL=>(have:=HLN.out;have:=HMO.out;omega));intro v9 w9 hr9 hb9 hg9 hat9;rw [<- HTS.out,<- HTK.out] at hr9;have HR9:=Mw hr9;have HB9:=Mw hb9;clear hr9 hb9 hg9 hat9)
     go_roundw
     case rel=>exact⟨i+1,by go_num,by omega,by omega,HR9,HB9⟩
     case measure=>simp [intOf]<;>omega
    obtain⟨ax,ea,ra⟩:=n6 HG.out j hjk;subst ea;replace ra:=jH HLB.out ra;obtain⟨x,hx⟩:∃ x,s.f1.getD j 0=x:=⟨_,rfl⟩;rw [hx] at ra;have hjs:j<s.f1.length:=by rw [HK.out];exact hjk
    have hxg:s.f1[j]=x:=by rw [<- hx,MD,MB hjs];rfl
    obtain⟨hx0,hx1⟩:=HSO.out.2 x (by rw [<- hxg];exact MG _)
    have HT:=Mw (show (s.f1.take (j+1)).map (bX 1)=(s.f1.take j).map (bX 1)++[bX 1 x] by rw [MH hjs,hxg,List.map_append];rfl)
    have HLL:=Mw (show ((s.f1.take j).map (bX 1)).length=j by rw [MC,Mz];omega)
    obtain⟨ys,hys⟩:∃ ys,(s.f1.take j).map (bX 1)=ys:=⟨_,rfl⟩;rw [hys] at HO2 HT HLL;have HYS:=Mw hys;clear hx hxg hjs hys;by_cases hjl2:j=long
    ·subst hjl2;have HTS:=Mw (show cV j s=⟨1,ys⟩ by unfold cV;rw [HM.out,HMD.out,HYS.out])
     have HO9:=Mw (Kd.eC HO.out HLB.out);have HNEW:=Mw (show ∀ k',(Value.slice A2 j c2).ownBlock=some k'->w.heap.size<=k'/\some k'≠(Value.slice Ao i co).ownBlock from fun k' hk'=>⟨Mx HB.out.size (cF HO2.out k' hk'),fun he=>by have h1:=Kd.mZ HO.out k' he.symm;have h2:=cF HO2.out k' hk';omega⟩)
     have HMA:=Mw (nX 1 HO2.out HLL.out HB.out.size)
     go_wp2_with ((with_reducible refine bD (b:=.append) (xs:=#[.tmp 65,.tmp 67]) rfl ?_);at_builtin;refine Kd.ml F.dU (w0:=w) w.heap.size rfl (.tmp 65) (.tmp 67) 38 98 (.agg #[.int .i64 0,.slice none 0 0]) 32 rfl Tryz.underlying38 nW rfl (by decide) (by decide) (.slice Ao i co) out ⟨1,ys⟩ [.int .i64 1,.slice A2 j c2] (fun k=>w.heap.size<=k) (fun k=>(Value.slice A2 j c2).ownBlock=some k) rfl rfl HMA.out HNEW.out (fun k hk=>Mx HBQ.out.size hk) HO9.out HBQ.out HBQ.out.size ?bL ?_;(case bL=>(have:=HLN.out;have:=HMO.out;omega));intro v9 w9 hr9 hb9 hg9 hat9;rw [<- HTS.out,<- HTK.out] at hr9;have HR9:=Mw hr9;have HB9:=Mw hb9;clear hr9 hb9 hg9 hat9)
     go_roundw
     case rel=>exact⟨i+1,by go_num,by omega,by omega,HR9,HB9⟩
     case measure=>simp [intOf]<;>omega
    obtain⟨y,hy⟩:∃ y,bX 1 x=y:=⟨_,rfl⟩;have hyx:y=(48+x%10):=by rw [<- hy];rfl
    rw [hy] at HT;clear hy;have HL1:=Mw (show (ys++[y]).length=j+1 by rw [ME,HLL.out];rfl)
    skip
    go_wp2_with (first | ((with_reducible refine bD (b:=.append) (xs:=#[.tmp 59,.tmp 61]) rfl ?_);at_builtin;refine eI (w0:=wo) wo.heap.size rfl (.tmp 59) (.tmp 61) 26 5 .u8 1 rfl Tryz.underlying26 F.cS (by decide) (.slice A2 j c2) ys (48+x%10) rfl rfl ?aO HLB.out HLB.out.size ?aL ?_;(case aO=>(rw [HLL.out];exact HO2.out));(case aL=>(have:=HLO.out;rw [HLL.out];omega));intro v6 w6 ho6 hb6 hg6 hat6;rw [<- hyx,HL1.out,<- HT.out] at ho6;obtain⟨A6,c6,hv6⟩:=eh ho6;subst hv6;have HO6:=Mw ho6;have HB6:=Mw hb6;have HP6:=Mw (show Blk w6 p 98 #[.int .i64 1,.slice A2 j c2] from (hg6.block p HPB.out.lt (own_ne HO2.out HPB.out (by decide))).trans HPB.out);have d1:=HP6.out.cell 1;have f1:=HP6.out.frozen 1;clear ho6 hb6 hg6 hat6))
    clear d1 f1;obtain⟨w7,hw7⟩:∃ w7,w7=w6.setCell ⟨p,1,none⟩ (.slice A6 (j+1) c6):=⟨_,rfl⟩;rw [<- hw7];have hT7:af w6 w7 p:=by rw [hw7];exact af.set _ _ _ _
    have HP7:=Mw (show Blk w7 p 98 #[.int .i64 1,.slice A6 (j+1) c6] by rw [hw7];exact bK HP6.out 1 _)
    have HO7:=Mw (un HO6.out HP6.out hT7);have HB7:=Mw (HB6.out.trans (hT7.below HPW.out));clear hw7 hT7
    go_roundw
    case rel=>exact⟨j+1,c6,A6,by go_num,by omega,by omega,HP7,HO7,HB7⟩
    case measure=>simp [intOf]<;>omega
  rotate_left
  ·subst hcs
   go_wp2_with fail
   rw [<- HWA.out,<- HWB.out,<- HP.out];clear r0 r1 c0' idx
   go_loopw [34] (fun v34 wq=>∃ (j c2:Nat) (A2:Option Addr),v34=.int .i64 (j:Int)/\j<=k/\j<=long/\Aside0 (Blk wq p 98 #[.int .i64 4,.slice A2 j c2])/\Aside0 (wq.ownsRow wo.heap.size 5 1 (.slice A2 j c2) j (ac .u8 ((s.f1.take j).map (bX 4))))/\Aside0 (Below wo.heap.size wo wq)) (fun v34 _=>(k-intOf v34).toNat)
   case atStart=>exact⟨0,0,none,rfl,My _,My _,HPB,⟨⟨rfl,.inl ⟨rfl,rfl⟩⟩⟩,HLB⟩
   case round=>
    clear HPB HLB HSB HSB2 HWA HWB HBA;obtain⟨j,c2,A2,rfl,hj,hjl,HPB,HO2,HLB⟩:=hrel;have hj9:j<=1000:=by have:=HLO.out;omega
    have b0:=HPB.out.cell 0;have b1:=HPB.out.cell 1;have HBQ:=Mw (HB.out.trans (HLB.out.mono HB.out.size));have fin:∀ q:Act->World->Prop,True:=fun _=>trivial
    by_cases hjk:j<k;rotate_left
    ·have hjk2:j=k:=by omega
     subst hjk2;have HLL:=Mw (show ((s.f1.take j).map (bX 4)).length=j by rw [MC,Mz];have:=HK.out;omega)
     obtain⟨ys,hys⟩:∃ ys,(s.f1.take j).map (bX 4)=ys:=⟨_,rfl⟩;rw [hys] at HO2 HLL;have HYS:=Mw hys;clear hys;have HTS:=Mw (show cV long s=⟨4,ys⟩ by unfold cV;rw [HM.out,HMD.out,<- HYS.out,MA (show s.f1.length<=long by rw [HK.out];exact hjl),MA (show s.f1.length<=j by rw [HK.out];exact Nat.le_refl _)])
     have HO9:=Mw (Kd.eC HO.out HLB.out);have HNEW:=Mw (show ∀ k',(Value.slice A2 j c2).ownBlock=some k'->w.heap.size<=k'/\some k'≠(Value.slice Ao i co).ownBlock from fun k' hk'=>⟨Mx HB.out.size (cF HO2.out k' hk'),fun he=>by have h1:=Kd.mZ HO.out k' he.symm;have h2:=cF HO2.out k' hk';omega⟩)
     have HMA:=Mw (nX 4 HO2.out HLL.out HB.out.size)
     go_wp2_with ((with_reducible refine bD (b:=.append) (xs:=#[.tmp 65,.tmp 67]) rfl ?_);at_builtin;refine Kd.ml F.dU (w0:=w) w.heap.size rfl (.tmp 65) (.tmp 67) 38 98 (.agg #[.int .i64 0,.slice none 0 0]) 32 rfl Tryz.underlying38 nW rfl (by decide) (by decide) (.slice Ao i co) out ⟨4,ys⟩ [.int .i64 4,.slice A2 j c2] (fun k=>w.heap.size<=k) (fun k=>(Value.slice A2 j c2).ownBlock=some k) rfl rfl HMA.out HNEW.out (fun k hk=>Mx HBQ.out.size hk) HO9.out HBQ.out HBQ.out.size ?bL ?_;(case bL=>(have:=HLN.out;have:=HMO.out;omega));intro v9 w9 hr9 hb9 hg9 hat9;rw [<- HTS.out,<- HTK.out] at hr9;have HR9:=Mw hr9;have HB9:=Mw hb9;clear hr9 hb9 hg9 hat9)
     go_roundw
     case rel=>exact⟨i+1,by go_num,by omega,by omega,HR9,HB9⟩
     case measure=>simp [intOf]<;>omega
    obtain⟨ax,ea,ra⟩:=n6 HG.out j hjk;subst ea;replace ra:=jH HLB.out ra;obtain⟨x,hx⟩:∃ x,s.f1.getD j 0=x:=⟨_,rfl⟩;rw [hx] at ra;have hjs:j<s.f1.length:=by rw [HK.out];exact hjk
    have hxg:s.f1[j]=x:=by rw [<- hx,MD,MB hjs];rfl
    obtain⟨hx0,hx1⟩:=HSO.out.2 x (by rw [<- hxg];exact MG _)
    have HT:=Mw (show (s.f1.take (j+1)).map (bX 4)=(s.f1.take j).map (bX 4)++[bX 4 x] by rw [MH hjs,hxg,List.map_append];rfl)
    have HLL:=Mw (show ((s.f1.take j).map (bX 4)).length=j by rw [MC,Mz];omega)
    obtain⟨ys,hys⟩:∃ ys,(s.f1.take j).map (bX 4)=ys:=⟨_,rfl⟩;rw [hys] at HO2 HT HLL;have HYS:=Mw hys;clear hx hxg hjs hys;by_cases hjl2:j=long
    ·subst hjl2;have HTS:=Mw (show cV j s=⟨4,ys⟩ by unfold cV;rw [HM.out,HMD.out,HYS.out])
     have HO9:=Mw (Kd.eC HO.out HLB.out);have HNEW:=Mw (show ∀ k',(Value.slice A2 j c2).ownBlock=some k'->w.heap.size<=k'/\some k'≠(Value.slice Ao i co).ownBlock from fun k' hk'=>⟨Mx HB.out.size (cF HO2.out k' hk'),fun he=>by have h1:=Kd.mZ HO.out k' he.symm;have h2:=cF HO2.out k' hk';omega⟩)
     have HMA:=Mw (nX 4 HO2.out HLL.out HB.out.size)
     go_wp2_with ((with_reducible refine bD (b:=.append) (xs:=#[.tmp 65,.tmp 67]) rfl ?_);at_builtin;refine Kd.ml F.dU (w0:=w) w.heap.size rfl (.tmp 65) (.tmp 67) 38 98 (.agg #[.int .i64 0,.slice none 0 0]) 32 rfl Tryz.underlying38 nW rfl (by decide) (by decide) (.slice Ao i co) out ⟨4,ys⟩ [.int .i64 4,.slice A2 j c2] (fun k=>w.heap.size<=k) (fun k=>(Value.slice A2 j c2).ownBlock=some k) rfl rfl HMA.out HNEW.out (fun k hk=>Mx HBQ.out.size hk) HO9.out HBQ.out HBQ.out.size ?bL ?_;(case bL=>(have:=HLN.out;have:=HMO.out;omega));intro v9 w9 hr9 hb9 hg9 hat9;rw [<- HTS.out,<- HTK.out] at hr9;have HR9:=Mw hr9;have HB9:=Mw hb9;clear hr9 hb9 hg9 hat9)
     go_roundw
     case rel=>exact⟨i+1,by go_num,by omega,by omega,HR9,HB9⟩
     case measure=>simp [intOf]<;>omega
    obtain⟨y,hy⟩:∃ y,bX 4 x=y:=⟨_,rfl⟩;have hyx:y=(32+x%95):=by rw [<- hy];rfl
    rw [hy] at HT;clear hy;have HL1:=Mw (show (ys++[y]).length=j+1 by rw [ME,HLL.out];rfl)
    skip
    go_wp2_with (first | ((with_reducible refine bD (b:=.append) (xs:=#[.tmp 59,.tmp 61]) rfl ?_);at_builtin;refine eI (w0:=wo) wo.heap.size rfl (.tmp 59) (.tmp 61) 26 5 .u8 1 rfl Tryz.underlying26 F.cS (by decide) (.slice A2 j c2) ys (32+x%95) rfl rfl ?aO HLB.out HLB.out.size ?aL ?_;(case aO=>(rw [HLL.out];exact HO2.out));(case aL=>(have:=HLO.out;rw [HLL.out];omega));intro v6 w6 ho6 hb6 hg6 hat6;rw [<- hyx,HL1.out,<- HT.out] at ho6;obtain⟨A6,c6,hv6⟩:=eh ho6;subst hv6;have HO6:=Mw ho6;have HB6:=Mw hb6;have HP6:=Mw (show Blk w6 p 98 #[.int .i64 4,.slice A2 j c2] from (hg6.block p HPB.out.lt (own_ne HO2.out HPB.out (by decide))).trans HPB.out);have d1:=HP6.out.cell 1;have f1:=HP6.out.frozen 1;clear ho6 hb6 hg6 hat6))
    clear d1 f1;obtain⟨w7,hw7⟩:∃ w7,w7=w6.setCell ⟨p,1,none⟩ (.slice A6 (j+1) c6):=⟨_,rfl⟩;rw [<- hw7];have hT7:af w6 w7 p:=by rw [hw7];exact af.set _ _ _ _
    have HP7:=Mw (show Blk w7 p 98 #[.int .i64 4,.slice A6 (j+1) c6] by rw [hw7];exact bK HP6.out 1 _)
    have HO7:=Mw (un HO6.out HP6.out hT7);have HB7:=Mw (HB6.out.trans (hT7.below HPW.out));clear hw7 hT7
    go_roundw
    case rel=>exact⟨j+1,c6,A6,by go_num,by omega,by omega,HP7,HO7,HB7⟩
    case measure=>simp [intOf]<;>omega
  subst hcs
  go_wp2_with fail
  rw [<- HWA.out,<- HWB.out,<- HP.out];clear r0 r1 c0' idx
  go_loopw [34] (fun v34 wq=>∃ (j c2:Nat) (A2:Option Addr),v34=.int .i64 (j:Int)/\j<=k/\j<=long/\Aside0 (Blk wq p 98 #[.int .i64 2,.slice A2 j c2])/\Aside0 (wq.ownsRow wo.heap.size 5 1 (.slice A2 j c2) j (ac .u8 ((s.f1.take j).map (bX 2))))/\Aside0 (Below wo.heap.size wo wq)) (fun v34 _=>(k-intOf v34).toNat)
  case atStart=>exact⟨0,0,none,rfl,My _,My _,HPB,⟨⟨rfl,.inl ⟨rfl,rfl⟩⟩⟩,HLB⟩
  case round=>
   clear HPB HLB HSB HSB2 HWA HWB HBA;obtain⟨j,c2,A2,rfl,hj,hjl,HPB,HO2,HLB⟩:=hrel;have hj9:j<=1000:=by have:=HLO.out;omega
   have b0:=HPB.out.cell 0;have b1:=HPB.out.cell 1;have HBQ:=Mw (HB.out.trans (HLB.out.mono HB.out.size));have fin:∀ q:Act->World->Prop,True:=fun _=>trivial
   by_cases hjk:j<k;rotate_left
   ·have hjk2:j=k:=by omega
    subst hjk2;have HLL:=Mw (show ((s.f1.take j).map (bX 2)).length=j by rw [MC,Mz];have:=HK.out;omega)
    obtain⟨ys,hys⟩:∃ ys,(s.f1.take j).map (bX 2)=ys:=⟨_,rfl⟩;rw [hys] at HO2 HLL;have HYS:=Mw hys;clear hys;have HTS:=Mw (show cV long s=⟨2,ys⟩ by unfold cV;rw [HM.out,HMD.out,<- HYS.out,MA (show s.f1.length<=long by rw [HK.out];exact hjl),MA (show s.f1.length<=j by rw [HK.out];exact Nat.le_refl _)])
    have HO9:=Mw (Kd.eC HO.out HLB.out);have HNEW:=Mw (show ∀ k',(Value.slice A2 j c2).ownBlock=some k'->w.heap.size<=k'/\some k'≠(Value.slice Ao i co).ownBlock from fun k' hk'=>⟨Mx HB.out.size (cF HO2.out k' hk'),fun he=>by have h1:=Kd.mZ HO.out k' he.symm;have h2:=cF HO2.out k' hk';omega⟩)
    have HMA:=Mw (nX 2 HO2.out HLL.out HB.out.size)
    go_wp2_with ((with_reducible refine bD (b:=.append) (xs:=#[.tmp 65,.tmp 67]) rfl ?_);at_builtin;refine Kd.ml F.dU (w0:=w) w.heap.size rfl (.tmp 65) (.tmp 67) 38 98 (.agg #[.int .i64 0,.slice none 0 0]) 32 rfl Tryz.underlying38 nW rfl (by decide) (by decide) (.slice Ao i co) out ⟨2,ys⟩ [.int .i64 2,.slice A2 j c2] (fun k=>w.heap.size<=k) (fun k=>(Value.slice A2 j c2).ownBlock=some k) rfl rfl HMA.out HNEW.out (fun k hk=>Mx HBQ.out.size hk) HO9.out HBQ.out HBQ.out.size ?bL ?_;(case bL=>(have:=HLN.out;have:=HMO.out;omega));intro v9 w9 hr9 hb9 hg9 hat9;rw [<- HTS.out,<- HTK.out] at hr9;have HR9:=Mw hr9;have HB9:=Mw hb9;clear hr9 hb9 hg9 hat9)
    go_roundw
    case rel=>exact⟨i+1,by go_num,by omega,by omega,HR9,HB9⟩
    case measure=>simp [intOf]<;>omega
   obtain⟨ax,ea,ra⟩:=n6 HG.out j hjk;subst ea;replace ra:=jH HLB.out ra;obtain⟨x,hx⟩:∃ x,s.f1.getD j 0=x:=⟨_,rfl⟩;rw [hx] at ra;have hjs:j<s.f1.length:=by rw [HK.out];exact hjk
   have hxg:s.f1[j]=x:=by rw [<- hx,MD,MB hjs];rfl
   obtain⟨hx0,hx1⟩:=HSO.out.2 x (by rw [<- hxg];exact MG _)
   have HT:=Mw (show (s.f1.take (j+1)).map (bX 2)=(s.f1.take j).map (bX 2)++[bX 2 x] by rw [MH hjs,hxg,List.map_append];rfl)
   have HLL:=Mw (show ((s.f1.take j).map (bX 2)).length=j by rw [MC,Mz];omega)
   obtain⟨ys,hys⟩:∃ ys,(s.f1.take j).map (bX 2)=ys:=⟨_,rfl⟩;rw [hys] at HO2 HT HLL;have HYS:=Mw hys;clear hx hxg hjs hys;by_cases hjl2:j=long
   ·subst hjl2;have HTS:=Mw (show cV j s=⟨2,ys⟩ by unfold cV;rw [HM.out,HMD.out,HYS.out])
    have HO9:=Mw (Kd.eC HO.out HLB.out);have HNEW:=Mw (show ∀ k',(Value.slice A2 j c2).ownBlock=some k'->w.heap.size<=k'/\some k'≠(Value.slice Ao i co).ownBlock from fun k' hk'=>⟨Mx HB.out.size (cF HO2.out k' hk'),fun he=>by have h1:=Kd.mZ HO.out k' he.symm;have h2:=cF HO2.out k' hk';omega⟩)
    have HMA:=Mw (nX 2 HO2.out HLL.out HB.out.size)
    go_wp2_with ((with_reducible refine bD (b:=.append) (xs:=#[.tmp 65,.tmp 67]) rfl ?_);at_builtin;refine Kd.ml F.dU (w0:=w) w.heap.size rfl (.tmp 65) (.tmp 67) 38 98 (.agg #[.int .i64 0,.slice none 0 0]) 32 rfl Tryz.underlying38 nW rfl (by decide) (by decide) (.slice Ao i co) out ⟨2,ys⟩ [.int .i64 2,.slice A2 j c2] (fun k=>w.heap.size<=k) (fun k=>(Value.slice A2 j c2).ownBlock=some k) rfl rfl HMA.out HNEW.out (fun k hk=>Mx HBQ.out.size hk) HO9.out HBQ.out HBQ.out.size ?bL ?_;(case bL=>(have:=HLN.out;have:=HMO.out;omega));intro v9 w9 hr9 hb9 hg9 hat9;rw [<- HTS.out,<- HTK.out] at hr9;have HR9:=Mw hr9;have HB9:=Mw hb9;clear hr9 hb9 hg9 hat9)
    go_roundw
    case rel=>exact⟨i+1,by go_num,by omega,by omega,HR9,HB9⟩
    case measure=>simp [intOf]<;>omega
   obtain⟨y,hy⟩:∃ y,bX 2 x=y:=⟨_,rfl⟩;have hyx:y=(fQ (x%45).toNat):=by rw [<- hy];rfl
   rw [hy] at HT;clear hy;have HL1:=Mw (show (ys++[y]).length=j+1 by rw [ME,HLL.out];rfl)
   have hx45:x%45=(((x%45).toNat:Nat):Int):=by omega
   have k52:=GR wr (x%45).toNat (by omega);rw [<- hx45] at k52;clear hx45
   go_wp2_with (first | (go_at_call 52;with_reducible (refine k52.mono ?_);rintro e wz ⟨rfl,rfl⟩) | ((with_reducible refine bD (b:=.append) (xs:=#[.tmp 59,.tmp 61]) rfl ?_);at_builtin;refine eI (w0:=wo) wo.heap.size rfl (.tmp 59) (.tmp 61) 26 5 .u8 1 rfl Tryz.underlying26 F.cS (by decide) (.slice A2 j c2) ys (fQ (x%45).toNat) rfl rfl ?aO HLB.out HLB.out.size ?aL ?_;(case aO=>(rw [HLL.out];exact HO2.out));(case aL=>(have:=HLO.out;rw [HLL.out];omega));intro v6 w6 ho6 hb6 hg6 hat6;rw [<- hyx,HL1.out,<- HT.out] at ho6;obtain⟨A6,c6,hv6⟩:=eh ho6;subst hv6;have HO6:=Mw ho6;have HB6:=Mw hb6;have HP6:=Mw (show Blk w6 p 98 #[.int .i64 2,.slice A2 j c2] from (hg6.block p HPB.out.lt (own_ne HO2.out HPB.out (by decide))).trans HPB.out);have d1:=HP6.out.cell 1;have f1:=HP6.out.frozen 1;clear ho6 hb6 hg6 hat6))
   clear d1 f1;obtain⟨w7,hw7⟩:∃ w7,w7=w6.setCell ⟨p,1,none⟩ (.slice A6 (j+1) c6):=⟨_,rfl⟩;rw [<- hw7];have hT7:af w6 w7 p:=by rw [hw7];exact af.set _ _ _ _
   have HP7:=Mw (show Blk w7 p 98 #[.int .i64 2,.slice A6 (j+1) c6] by rw [hw7];exact bK HP6.out 1 _)
   have HO7:=Mw (un HO6.out HP6.out hT7);have HB7:=Mw (HB6.out.trans (hT7.below HPW.out));clear hw7 hT7
   go_roundw
   case rel=>exact⟨j+1,c6,A6,by go_num,by omega,by omega,HP7,HO7,HB7⟩
   case measure=>simp [intOf]<;>omega
theorem JR (w:World)(l:Nat)(hl:l<4):Calls Tryz.prog 53 #[.int .i64 (l:Int)] w fun e w'=>e=.returned (.string (ip l))/\w=w':=by
 have hc:l=0\/l=1\/l=2\/l=3:=by omega
 rcases hc with rfl | rfl | rfl | rfl
 ·have i0:∀ W,(Instr.index 166 (.agg #[.string ⟨#[77]⟩,.string ⟨#[76]⟩,.string ⟨#[72]⟩,.string ⟨#[81]⟩]) (.int .i64 0)).run Tryz.prog W=.ok (.string (ip 0)) W:=fun _=>by kernel_rfl
  go_enter Tryz.func53,Tryz.ntmps53
  go_wp2
  go_ret
  exact⟨rfl,rfl⟩
 ·have i0:∀ W,(Instr.index 166 (.agg #[.string ⟨#[77]⟩,.string ⟨#[76]⟩,.string ⟨#[72]⟩,.string ⟨#[81]⟩]) (.int .i64 1)).run Tryz.prog W=.ok (.string (ip 1)) W:=fun _=>by kernel_rfl
  go_enter Tryz.func53,Tryz.ntmps53
  go_wp2
  go_ret
  exact⟨rfl,rfl⟩
 ·have i0:∀ W,(Instr.index 166 (.agg #[.string ⟨#[77]⟩,.string ⟨#[76]⟩,.string ⟨#[72]⟩,.string ⟨#[81]⟩]) (.int .i64 2)).run Tryz.prog W=.ok (.string (ip 2)) W:=fun _=>by kernel_rfl
  go_enter Tryz.func53,Tryz.ntmps53
  go_wp2
  go_ret
  exact⟨rfl,rfl⟩
 have i0:∀ W,(Instr.index 166 (.agg #[.string ⟨#[77]⟩,.string ⟨#[76]⟩,.string ⟨#[72]⟩,.string ⟨#[81]⟩]) (.int .i64 3)).run Tryz.prog W=.ok (.string (ip 3)) W:=fun _=>by kernel_rfl
 go_enter Tryz.func53,Tryz.ntmps53
 go_wp2
 go_ret
 exact⟨rfl,rfl⟩
def lX (x:Int):Bool:=decide (32<=x/\x<=126)
def jI (l:List F.bl):Bool:=l.all fun s=>s.f1.all lX
def fX (l:List F.bl):List Int:=l.flatMap fun s=>s.f1
theorem JS (l:List F.bl)(b:Nat)(h:∀ s∈l,s.f1.length<=b):(fX l).length<=b*l.length:=by
 induction l with
 | nil=>simp [fX]
 | cons s l ih=>
  have h1:=ih (fun t ht=>h t (by simp [ht]));have h2:=h s (by simp);unfold fX at *;rw [List.flatMap_cons,ME,List.length_cons,Nat.mul_add,Nat.mul_one];omega
set_option maxHeartbeats 4000000 in
set_option maxRecDepth 8000 in
theorem JT (w:World)(A:Option Addr)(c n:Nat)(l:List F.bl)(hl:Kd.C F.dU w A n l)(hn:l.length=n)(hb:∀ s∈l,s.f1.length<=10000/\∀ x∈s.f1,0<=x/\x<=255)(hn2:n<=10000) :
  Calls Tryz.prog 24 #[.slice A n c] w fun e w'=>e=.returned (if jI l then .tuple #[.string (strOfNums (fX l)),.bool true] else .tuple #[.string ⟨#[]⟩,.bool false])/\Below w.heap.size w w':=by
 have HC:=Mw hl;have HN:=Mw hn;have HS:=Mw hb;have HN2:=Mw hn2;obtain⟨R,hR⟩:∃ R,R=Ending.returned (if jI l then .tuple #[.string (strOfNums (fX l)),.bool true] else .tuple #[.string ⟨#[]⟩,.bool false]):=⟨_,rfl⟩;rw [<- hR];have HR:=Mw hR;clear hl hn hb hn2 hR
 go_enter Tryz.func24,Tryz.ntmps24
 go_wp2_with fail
 go_loopw [4,11] (fun v4 v11 wr=>∃ i:Nat,v11=.int .i64 (i:Int)/\i<=n/\Aside0 (wr.ownsRow w.heap.size 5 1 v4 (fX (l.take i)).length (ac .u8 (fX (l.take i))))/\Aside0 (Below w.heap.size w wr)/\Aside0 (jI (l.take i)=true)) (fun _ v11 _=>(n-intOf v11).toNat)
 case atStart=>exact⟨0,rfl,My _,⟨rz _ _⟩,⟨Below.refl _ _⟩,⟨rfl⟩⟩
 case round=>
  obtain⟨i,rfl,hi,HO,HB,HA⟩:=hrel;have hi9:i<=10000:=by have:=HN2.out;omega
  by_cases hin:i<n;rotate_left
  ·have:i=n:=by omega
   subst this;have hall:l.take l.length=l:=List.take_length;have hO2:=HO.out;have hA2:=HA.out;rw [<- HN.out,hall] at hO2 hA2;have HCV:=Mw (oh (P:=Tryz.prog) (e':=5) Tryz.underlying26 Tryz.underlying5 Tryz.underlying9 hO2);have hcv:=HCV.out;have HA2:=Mw hA2;clear hO2 hA2 hall
   go_wp2_with fail
   go_ret2
   refine⟨?_,HB.out⟩;rw [HR.out,HA2.out];rfl
  obtain⟨ad,A1,c1,e0,r0,r1,l1,g1⟩:=F.nl HC.out (i:Int) (by omega) (by omega);rw [MF] at r0 r1;obtain⟨s,hss⟩:∃ s,F.cC l i=s:=⟨_,rfl⟩;rw [hss] at r0 r1 l1 g1;have hgi:l[i]? = some s:=by
   have hlt:i<l.length:=by rw [HN.out];exact hin
   rw [MB hlt,<- hss];unfold F.cC;rw [MF,MD,MB hlt];rfl
  have hso:=HS.out s (MI hgi);have HGI:=Mw hgi;have htk:l.take (i+1)=l.take i++[s]:=by rw [List.take_add_one,hgi];rfl
  have HTF:=Mw (show fX (l.take (i+1))=fX (l.take i)++s.f1 by rw [htk];simp [fX])
  have HTA:=Mw (show jI (l.take (i+1))=(jI (l.take i) && s.f1.all lX) by rw [htk];simp [jI])
  have HFL:=Mw (show (fX (l.take i)).length<=100000000 by
   have h1:=JS (l.take i) 10000 (fun t ht=>(HS.out t (List.mem_of_mem_take ht)).1);have h2:(l.take i).length<=10000:=by rw [Mz];have:=HN2.out;omega
   have h3:=Nat.mul_le_mul_left 10000 h2;omega)
  obtain⟨fl,hfl⟩:∃ fl,fX (l.take i)=fl:=⟨_,rfl⟩;rw [hfl] at HO HTF HFL;obtain⟨k,hk⟩:∃ k,s.f1.length=k:=⟨_,rfl⟩;obtain⟨m,hm⟩:∃ m,s.f0=m:=⟨_,rfl⟩;rw [hm] at r0;rw [hk] at r1 l1 g1;subst e0;replace r0:=jH HB.out r0;replace r1:=jH HB.out r1;have HSO:=Mw hso;have HK:=Mw hk;have HG:=Mw g1;have hk2:k<=10000:=by rw [<- hk];exact hso.1
  have HBA:=Mw (HB.out.alloc HB.out.size (.cells #[.int .i64 m,.slice A1 k c1] 98));have HOA:=Mw (mL HO.out (ai (Below.refl wr.heap.size wr) (.cells #[.int .i64 m,.slice A1 k c1] 98)));have HBK:=Mw (Blk.new wr 98 #[.int .i64 m,.slice A1 k c1]);obtain⟨wa,hwa⟩:∃ wa,wa=wr.alloc (.cells #[.int .i64 m,.slice A1 k c1] 98):=⟨_,rfl⟩;rw [<- hwa] at HBA HOA HBK;have HWA:=Mw hwa;have c1':=HBK.out.cell 1;clear hso hss hgi hm hk hwa g1 hfl htk
  go_wp2_with fail
  rw [<- HWA.out]
  go_wp2_with fail
  clear r0 r1 c1'
  go_loopw [4,18] (fun v4 v18 wq=>∃ j:Nat,v18=.int .i64 (j:Int)/\j<=k/\Aside0 (wq.ownsRow w.heap.size 5 1 v4 (fl++s.f1.take j).length (ac .u8 (fl++s.f1.take j)))/\Aside0 (Below w.heap.size w wq)/\Aside0 ((s.f1.take j).all lX=true)) (fun _ v18 _=>(k-intOf v18).toNat)
  case atStart=>exact⟨0,rfl,My _,⟨by rw [List.take_zero,List.append_nil];exact HOA.out⟩,HBA,⟨rfl⟩⟩
  case round=>
   clear HO HB HBA HOA HBK HWA;obtain⟨j,rfl,hj,HO,HB,HJ⟩:=hrel;by_cases hjk:j<k;rotate_left
   ·have:j=k:=by omega
    subst this;have hta:s.f1.take s.f1.length=s.f1:=List.take_length;have hO2:=HO.out;have hJ2:=HJ.out;rw [<- HK.out,hta] at hO2 hJ2;have HO3:=Mw hO2;have HJ3:=Mw hJ2;clear hO2 hJ2 hta
    go_wp2_with fail
    go_roundw
    case rel=>exact⟨i+1,by go_num,by omega,⟨by rw [HTF.out];exact HO3.out⟩,HB,⟨by rw [HTA.out,HA.out,HJ3.out];rfl⟩⟩
    case measure=>simp [intOf]<;>omega
   obtain⟨ax,ea,ra⟩:=n6 HG.out j hjk;subst ea;replace ra:=jH HB.out ra;obtain⟨x,hx⟩:∃ x,s.f1.getD j 0=x:=⟨_,rfl⟩;rw [hx] at ra;have hjl:j<s.f1.length:=by rw [HK.out];exact hjk
   have hxg:s.f1[j]=x:=by rw [<- hx,MD,MB hjl];rfl
   have HT:=Mw (show s.f1.take (j+1)=s.f1.take j++[x] by rw [MH hjl,hxg]);have hmem:x∈s.f1:=by rw [<- hxg];exact MG _
   obtain⟨hx0,hx1⟩:=HSO.out.2 x hmem;have HMEM:=Mw hmem;have HLL:=Mw (show (fl++s.f1.take j).length<=100010000 by rw [ME,Mz];have:=HFL.out;omega)
   obtain⟨ys,hys⟩:∃ ys,fl++s.f1.take j=ys:=⟨_,rfl⟩;have HYS:=Mw hys;rw [hys] at HO HLL;obtain⟨Ao,co,hvo⟩:=eh HO.out;subst hvo;clear hx hxg hmem hys hjl;by_cases ha:32<=x/\x<=126;rotate_left
   ·have hf:jI l=false:=by
     rw [Bool.eq_false_iff];intro h;unfold jI at h;rw [List.all_eq_true] at h;have h1:=h s (MI HGI.out);rw [List.all_eq_true] at h1;have h2:=h1 x HMEM.out;unfold lX at h2;exact ha (of_decide_eq_true h2)
    have HF:=Mw hf;clear hf;have hxx:x<32\/(32<=x/\126<x):=by omega
    clear ha;rcases hxx with hxx | ⟨hx1,hx2⟩
    all_goals
     go_wp2_with fail
     go_ret2
     refine⟨?_,HB.out⟩;rw [HR.out,HF.out];rfl
   obtain⟨ha1,ha2⟩:=ha
   go_wp2_with (first | ((with_reducible refine bD (b:=.append) (xs:=#[.tmp 28,.tmp 30]) rfl ?_);at_builtin;refine eI (w0:=w) w.heap.size rfl (.tmp 28) (.tmp 30) 26 5 .u8 1 rfl Tryz.underlying26 F.cS (by decide) (.slice Ao ys.length co) ys x rfl rfl HO.out HB.out HB.out.size ?aL ?_;(case aL=>(have:=HLL.out;omega));intro v6 w6 ho6 hb6 hg6 hat6;have HO6:=Mw ho6;have HB6:=Mw hb6;clear ho6 hb6 hg6 hat6))
   go_roundw
   case rel=>exact⟨j+1,by go_num,by omega,⟨by rw [HT.out,<- List.append_assoc,HYS.out];exact HO6.out⟩,HB6,⟨by rw [HT.out,List.all_append,HJ.out];simp [lX,ha1,ha2]⟩⟩
   case measure=>simp [intOf]<;>omega
end Go.Proofs.YtgccjgpdjkhpdaaGreat.B
