import Derived.Test.YtgccjgpdjkhpdaaGreatVQ4
import Derived.Test.YtgccjgpdjkhpdaaGreatVQ28
/-! Own texts of this claim, part 29. -/
namespace Go.Proofs.YtgccjgpdjkhpdaaGreat.B
open Go.RowKit Go.Proofs.YtgccjgpdjkhpdaaGreatW.PrintWords Go.Proofs.YtgccjgpdjkhpdaaGreatW.PrintLast Go.Proofs.YtgccjgpdjkhpdaaGreatW.PrintMore
set_option linter.unusedVariables false
set_option linter.unusedSimpArgs false
def tmode (m:Int):Int:=if m%3=0 then 1 else if m%3=1 then 2 else 4
def tbyte (md x:Int):Int:=if md=1 then 48+x%10 else if md=2 then alCh (x%45).toNat else 32+x%95
def tseg (long:Nat)(s:F.S98):F.S98:=⟨tmode s.f0,(s.f1.take long).map (tbyte (tmode s.f0))⟩
theorem tmode_cases (m:Int):tmode m=1\/tmode m=2\/tmode m=4:=by
 unfold tmode
 split
 ·exact .inl rfl
 ·split
  ·exact .inr (.inl rfl)
  ·exact .inr (.inr rfl)
def segsOf (most long:Nat)(l:List F.S98):List F.S98:=(l.take most).map (tseg long)
theorem tmode_idx (m r:Int)(h:r=Int.tmod (Int.tmod m 3+3) 3):r=m%3/\0<=r/\r<3:=by
 have h1:Int.tmod m 3=m%3\/(Int.tmod m 3=m%3-3/\m%3≠0):=by
  by_cases hm:m<0
  ·have:=Int.tmod_eq_emod (a:=m) (b:=3)
   rw [this]
   split<;>omega
  ·left;exact Int.tmod_eq_emod_of_nonneg (by omega)
 have h2:0<=Int.tmod m 3+3:=by omega
 rw [Int.tmod_eq_emod_of_nonneg h2] at h
 omega
theorem own_turn98 {w w':World}{s base n:Nat}{v:Value}{hs:List Value}{cs:Array Value}(hown:w.ownsRow base 5 1 v n hs)(h:Blk w s 98 cs)(ht:Turn w w' s):w'.ownsRow base 5 1 v n hs :=
 own_move hown fun k hk=>ht.block k (by rintro rfl;exact own_ne hown h (by decide) hk.symm)
set_option maxHeartbeats 4000000 in
set_option maxRecDepth 8000 in
theorem seg17 (w:World)(A:Option Addr)(c n most long:Nat)(l:List F.S98)(hl:Kd.C F.k98 w A n l)(hn:l.length=n)(hin:∀ s∈l,SegIn s)(hm:most<=10)(hlg:long<=1000) :
  Calls Tryz.prog 17 #[.slice A n c,.int .i64 (most:Int),.int .i64 (long:Int)] w fun e w'=>∃ v',e=.returned v'/\Kd.R F.k98 98 w' w.heap.size (fun k=>w.heap.size<=k) v' (segsOf most long l)/\Below w.heap.size w w':=by
 have HC:=Aside0.mk hl
 have HN:=Aside0.mk hn
 have HS:=Aside0.mk hin
 have HMO:=Aside0.mk hm
 have HLO:=Aside0.mk hlg
 clear hl hn hin hm hlg
 go_enter Tryz.func17,Tryz.ntmps17
 go_wp2_with fail
 go_loopw [7,15] (fun v7 v15 wr=>∃ i:Nat,v15=.int .i64 (i:Int)/\i<=n/\i<=most/\Aside0 (Kd.R F.k98 98 wr w.heap.size (fun k=>w.heap.size<=k) v7 ((l.take i).map (tseg long)))/\Aside0 (Below w.heap.size w wr)) (fun _ v15 _=>(n-intOf v15).toNat)
 case atStart=>exact⟨0,rfl,Nat.zero_le _,Nat.zero_le _,⟨by rw [List.take_zero];exact Kd.R_nil _ _ _ _ _⟩,⟨Below.refl _ _⟩⟩
 case round=>
  obtain⟨i,rfl,hi,him,HO,HB⟩:=hrel
  obtain⟨wo,hwo⟩:∃ wo,wo=wr:=⟨_,rfl⟩
  subst hwo
  have hi10:i<=10:=by have:=HMO.out;omega
  by_cases hin:i<n
  ·obtain⟨ad,A1,c1,e0,r0,r1,l1,g1⟩:=F.at_T98 HC.out (i:Int) (by omega) (by omega)
   rw [Int.toNat_natCast] at r0 r1
   obtain⟨s,hss⟩:∃ s,F.rd_T98 l i=s:=⟨_,rfl⟩
   rw [hss] at r0 r1 l1 g1
   have hgi:l[i]? = some s:=by
    have hlt:i<l.length:=by rw [HN.out];exact hin
    rw [List.getElem?_eq_getElem hlt,<- hss]
    unfold F.rd_T98
    rw [Int.toNat_natCast,List.getD_eq_getElem?_getD,List.getElem?_eq_getElem hlt]
    rfl
   have hso:=HS.out s (List.mem_of_getElem? hgi)
   have HTK:=Aside0.mk (show (l.take (i+1)).map (tseg long)=(l.take i).map (tseg long)++[tseg long s] by
    rw [List.take_add_one,hgi]
    simp)
   obtain⟨m,hm⟩:∃ m,s.f0=m:=⟨_,rfl⟩
   obtain⟨k,hk⟩:∃ k,s.f1.length=k:=⟨_,rfl⟩
   rw [hm] at r0
   rw [hk] at r1 l1 g1
   subst e0
   replace r0:=cell_up HB.out r0
   replace r1:=cell_up HB.out r1
   have HSO:=Aside0.mk hso
   have HM:=Aside0.mk hm
   have HK:=Aside0.mk hk
   have HG:=Aside0.mk (Kd.C_below g1 HB.out)
   have HLN:=Aside0.mk (show ((l.take i).map (tseg long)).length=i by rw [List.length_map,List.length_take,HN.out];omega)
   obtain⟨out,hout⟩:∃ out,(l.take i).map (tseg long)=out:=⟨_,rfl⟩
   rw [hout] at HO HTK HLN
   have HOU:=Aside0.mk hout
   obtain⟨Ao,co,rfl,ho1,ho2⟩:=Kd.R_reads HO.out
   rw [HLN.out] at HO ho1 ho2 ⊢
   obtain⟨wa,hwa⟩:∃ wa,wa=wo.alloc (.cells #[.int .i64 m,.slice A1 k c1] 98):=⟨_,rfl⟩
   have HWA:=Aside0.mk hwa
   have HBA:=Aside0.mk (show Below w.heap.size w wa by rw [hwa];exact HB.out.alloc HB.out.size _)
   have HSB:=Aside0.mk (show Blk wa wo.heap.size 98 #[.int .i64 m,.slice A1 k c1] by rw [hwa];exact Blk.new _ _ _)
   clear hso hss hgi hm hk hwa g1 hout ho2
   by_cases hmm:i=most
   ·subst hmm
    go_wp2_with fail
    go_ret
    exact⟨_,rfl,by unfold segsOf;rw [HOU.out];exact Kd.R_below HO.out (below_alloc (Below.refl _ _) _),by rw [<- HWA.out];exact HBA.out⟩
   ·have hbf:((i:Int)==(most:Int))=false:=beq_eq_false_iff_ne.2 (by omega)
    have hidx:=tmode_idx m _ rfl
    have HID:=Aside0.mk hidx
    obtain⟨md,hmd⟩:∃ md,tmode m=md:=⟨_,rfl⟩
    have i0:∀ W,(Instr.index 100 (.agg #[.int .i64 1,.int .i64 2,.int .i64 4]) (.int .i64 0)).run Tryz.prog W=.ok (.int .i64 1) W:=fun _=>by kernel_rfl
    have i1:∀ W,(Instr.index 100 (.agg #[.int .i64 1,.int .i64 2,.int .i64 4]) (.int .i64 1)).run Tryz.prog W=.ok (.int .i64 2) W:=fun _=>by kernel_rfl
    have i2:∀ W,(Instr.index 100 (.agg #[.int .i64 1,.int .i64 2,.int .i64 4]) (.int .i64 2)).run Tryz.prog W=.ok (.int .i64 4) W:=fun _=>by kernel_rfl
    have idx:∀ W,(Instr.index 100 (.agg #[.int .i64 1,.int .i64 2,.int .i64 4]) (.int .i64 ((wrap64 (m.tmod 3+3)).tmod 3))).run Tryz.prog W=.ok (.int .i64 md) W:=by
     intro W
     obtain⟨h1,h2,h3⟩:=hidx
     have hw:wrap64 (m.tmod 3+3)=m.tmod 3+3:=by
      have h4:-3<m.tmod 3/\m.tmod 3<3:=by
       have:=Int.tmod_eq_emod (a:=m) (b:=3)
       rw [this]
       split<;>omega
      unfold wrap64;omega
     rw [hw,h1,<- hmd]
     unfold tmode
     have h4:m%3=0\/m%3=1\/m%3=2:=by omega
     rcases h4 with h4 | h4 | h4
     ·rw [h4,if_pos rfl];exact i0 W
     ·rw [h4,if_neg (by decide),if_pos rfl];exact i1 W
     ·rw [h4,if_neg (by decide),if_neg (by decide)];exact i2 W
    have HMD:=Aside0.mk hmd
    have hcs:=tmode_cases m
    rw [hmd] at hcs
    clear hidx hmd i0 i1 i2
    obtain⟨wb,hwb⟩:∃ wb,wb=wa.alloc (.cells #[.int .i64 md,.slice none 0 0] 98):=⟨_,rfl⟩
    have HWB:=Aside0.mk hwb
    obtain⟨p,hp⟩:∃ p,p=wo.heap.size+1:=⟨_,rfl⟩
    have HP:=Aside0.mk hp
    have HPB:=Aside0.mk (show Blk wb p 98 #[.int .i64 md,.slice none 0 0] by have h:=Blk.new wa 98 #[.int .i64 md,.slice none 0 0];rw [show wa.heap.size=wo.heap.size+1 by rw [HWA.out];simp] at h;rw [hwb,hp];exact h)
    have HLB:=Aside0.mk (show Below wo.heap.size wo wb by rw [hwb,HWA.out];exact below_alloc (below_alloc (Below.refl _ _) _) _)
    have HPW:=Aside0.mk (show wo.heap.size<=p by omega)
    have HSB2:=Aside0.mk (show Blk wb wo.heap.size 98 #[.int .i64 m,.slice A1 k c1] by rw [hwb];exact Blk.below HSB.out (below_alloc (Below.refl wa.heap.size wa) _) HSB.out.lt)
    have c0':=HSB2.out.cell 1
    clear hwb hp
    rcases hcs with hcs | hcs | hcs
    ·subst hcs
     go_wp2_with fail
     rw [<- HWA.out,<- HWB.out,<- HP.out]
     clear r0 r1 c0' idx
     go_loopw [34] (fun v34 wq=>∃ (j c2:Nat) (A2:Option Addr),v34=.int .i64 (j:Int)/\j<=k/\j<=long/\Aside0 (Blk wq p 98 #[.int .i64 1,.slice A2 j c2])/\Aside0 (wq.ownsRow wo.heap.size 5 1 (.slice A2 j c2) j (nums .u8 ((s.f1.take j).map (tbyte 1))))/\Aside0 (Below wo.heap.size wo wq)) (fun v34 _=>(k-intOf v34).toNat)
     case atStart=>exact⟨0,0,none,rfl,Nat.zero_le _,Nat.zero_le _,HPB,⟨⟨rfl,.inl ⟨rfl,rfl⟩⟩⟩,HLB⟩
     case round=>
      clear HPB HLB HSB HSB2 HWA HWB HBA
      obtain⟨j,c2,A2,rfl,hj,hjl,HPB,HO2,HLB⟩:=hrel
      have hj9:j<=1000:=by have:=HLO.out;omega
      have b0:=HPB.out.cell 0
      have b1:=HPB.out.cell 1
      have HBQ:=Aside0.mk (HB.out.trans (HLB.out.mono HB.out.size))
      have fin:∀ q:Act->World->Prop,True:=fun _=>trivial
      by_cases hjk:j<k
      ·obtain⟨ax,ea,ra⟩:=ints_at HG.out j hjk
       subst ea
       replace ra:=cell_up HLB.out ra
       obtain⟨x,hx⟩:∃ x,s.f1.getD j 0=x:=⟨_,rfl⟩
       rw [hx] at ra
       have hjs:j<s.f1.length:=by rw [HK.out];exact hjk
       have hxg:s.f1[j]=x:=by rw [<- hx,List.getD_eq_getElem?_getD,List.getElem?_eq_getElem hjs];rfl
       obtain⟨hx0,hx1⟩:=HSO.out.2 x (by rw [<- hxg];exact List.getElem_mem _)
       have HT:=Aside0.mk (show (s.f1.take (j+1)).map (tbyte 1)=(s.f1.take j).map (tbyte 1)++[tbyte 1 x] by rw [List.take_succ_eq_append_getElem hjs,hxg,List.map_append];rfl)
       have HLL:=Aside0.mk (show ((s.f1.take j).map (tbyte 1)).length=j by rw [List.length_map,List.length_take];omega)
       obtain⟨ys,hys⟩:∃ ys,(s.f1.take j).map (tbyte 1)=ys:=⟨_,rfl⟩
       rw [hys] at HO2 HT HLL
       have HYS:=Aside0.mk hys
       clear hx hxg hjs hys
       by_cases hjl2:j=long
       ·subst hjl2
        have HTS:=Aside0.mk (show tseg j s=⟨1,ys⟩ by unfold tseg;rw [HM.out,HMD.out,HYS.out])
        have HO9:=Aside0.mk (Kd.R_below HO.out HLB.out)
        have HNEW:=Aside0.mk (show ∀ k',(Value.slice A2 j c2).ownBlock=some k'->w.heap.size<=k'/\some k'≠(Value.slice Ao i co).ownBlock from fun k' hk'=>⟨Nat.le_trans HB.out.size (own_base HO2.out k' hk'),fun he=>by have h1:=Kd.R_lt HO.out k' he.symm;have h2:=own_base HO2.out k' hk';omega⟩)
        have HMA:=Aside0.mk (tseg_made 1 HO2.out HLL.out HB.out.size)
        go_wp2_with ((with_reducible refine gate_builtin (b:=.append) (xs:=#[.tmp 65,.tmp 67]) rfl ?_);at_builtin;refine Kd.R_append F.k98 (w0:=w) w.heap.size rfl (.tmp 65) (.tmp 67) 38 98 (.agg #[.int .i64 0,.slice none 0 0]) 32 rfl Tryz.underlying38 info98s rfl (by decide) (by decide) (.slice Ao i co) out ⟨1,ys⟩ [.int .i64 1,.slice A2 j c2] (fun k=>w.heap.size<=k) (fun k=>(Value.slice A2 j c2).ownBlock=some k) rfl rfl HMA.out HNEW.out (fun k hk=>Nat.le_trans HBQ.out.size hk) HO9.out HBQ.out HBQ.out.size ?bL ?_;(case bL=>(have:=HLN.out;have:=HMO.out;omega));intro v9 w9 hr9 hb9 hg9 hat9;rw [<- HTS.out,<- HTK.out] at hr9;have HR9:=Aside0.mk hr9;have HB9:=Aside0.mk hb9;clear hr9 hb9 hg9 hat9)
        go_roundw
        case rel=>exact⟨i+1,by go_num,by omega,by omega,HR9,HB9⟩
        case measure=>simp [intOf]<;>omega
       ·obtain⟨y,hy⟩:∃ y,tbyte 1 x=y:=⟨_,rfl⟩
        have hyx:y=(48+x%10):=by rw [<- hy];rfl
        rw [hy] at HT
        clear hy
        have HL1:=Aside0.mk (show (ys++[y]).length=j+1 by rw [List.length_append,HLL.out];rfl)
        skip
        go_wp2_with (first | ((with_reducible refine gate_builtin (b:=.append) (xs:=#[.tmp 59,.tmp 61]) rfl ?_);at_builtin;refine print_append_num (w0:=wo) wo.heap.size rfl (.tmp 59) (.tmp 61) 26 5 .u8 1 rfl Tryz.underlying26 F.info5 (by decide) (.slice A2 j c2) ys (48+x%10) rfl rfl ?aO HLB.out HLB.out.size ?aL ?_;(case aO=>(rw [HLL.out];exact HO2.out));(case aL=>(have:=HLO.out;rw [HLL.out];omega));intro v6 w6 ho6 hb6 hg6 hat6;rw [<- hyx,HL1.out,<- HT.out] at ho6;obtain⟨A6,c6,hv6⟩:=own_slice ho6;subst hv6;have HO6:=Aside0.mk ho6;have HB6:=Aside0.mk hb6;have HP6:=Aside0.mk (show Blk w6 p 98 #[.int .i64 1,.slice A2 j c2] from (hg6.block p HPB.out.lt (own_ne HO2.out HPB.out (by decide))).trans HPB.out);have d1:=HP6.out.cell 1;have f1:=HP6.out.frozen 1;clear ho6 hb6 hg6 hat6))
        clear d1 f1
        obtain⟨w7,hw7⟩:∃ w7,w7=w6.setCell ⟨p,1,none⟩ (.slice A6 (j+1) c6):=⟨_,rfl⟩
        rw [<- hw7]
        have hT7:Turn w6 w7 p:=by rw [hw7];exact Turn.set _ _ _ _
        have HP7:=Aside0.mk (show Blk w7 p 98 #[.int .i64 1,.slice A6 (j+1) c6] by rw [hw7];exact blk_set HP6.out 1 _)
        have HO7:=Aside0.mk (own_turn98 HO6.out HP6.out hT7)
        have HB7:=Aside0.mk (HB6.out.trans (hT7.below HPW.out))
        clear hw7 hT7
        go_roundw
        case rel=>exact⟨j+1,c6,A6,by go_num,by omega,by omega,HP7,HO7,HB7⟩
        case measure=>simp [intOf]<;>omega
      ·have hjk2:j=k:=by omega
       subst hjk2
       have HLL:=Aside0.mk (show ((s.f1.take j).map (tbyte 1)).length=j by rw [List.length_map,List.length_take];have:=HK.out;omega)
       obtain⟨ys,hys⟩:∃ ys,(s.f1.take j).map (tbyte 1)=ys:=⟨_,rfl⟩
       rw [hys] at HO2 HLL
       have HYS:=Aside0.mk hys
       clear hys
       have HTS:=Aside0.mk (show tseg long s=⟨1,ys⟩ by unfold tseg;rw [HM.out,HMD.out,<- HYS.out,List.take_of_length_le (show s.f1.length<=long by rw [HK.out];exact hjl),List.take_of_length_le (show s.f1.length<=j by rw [HK.out];exact Nat.le_refl _)])
       have HO9:=Aside0.mk (Kd.R_below HO.out HLB.out)
       have HNEW:=Aside0.mk (show ∀ k',(Value.slice A2 j c2).ownBlock=some k'->w.heap.size<=k'/\some k'≠(Value.slice Ao i co).ownBlock from fun k' hk'=>⟨Nat.le_trans HB.out.size (own_base HO2.out k' hk'),fun he=>by have h1:=Kd.R_lt HO.out k' he.symm;have h2:=own_base HO2.out k' hk';omega⟩)
       have HMA:=Aside0.mk (tseg_made 1 HO2.out HLL.out HB.out.size)
       go_wp2_with ((with_reducible refine gate_builtin (b:=.append) (xs:=#[.tmp 65,.tmp 67]) rfl ?_);at_builtin;refine Kd.R_append F.k98 (w0:=w) w.heap.size rfl (.tmp 65) (.tmp 67) 38 98 (.agg #[.int .i64 0,.slice none 0 0]) 32 rfl Tryz.underlying38 info98s rfl (by decide) (by decide) (.slice Ao i co) out ⟨1,ys⟩ [.int .i64 1,.slice A2 j c2] (fun k=>w.heap.size<=k) (fun k=>(Value.slice A2 j c2).ownBlock=some k) rfl rfl HMA.out HNEW.out (fun k hk=>Nat.le_trans HBQ.out.size hk) HO9.out HBQ.out HBQ.out.size ?bL ?_;(case bL=>(have:=HLN.out;have:=HMO.out;omega));intro v9 w9 hr9 hb9 hg9 hat9;rw [<- HTS.out,<- HTK.out] at hr9;have HR9:=Aside0.mk hr9;have HB9:=Aside0.mk hb9;clear hr9 hb9 hg9 hat9)
       go_roundw
       case rel=>exact⟨i+1,by go_num,by omega,by omega,HR9,HB9⟩
       case measure=>simp [intOf]<;>omega
    ·subst hcs
     go_wp2_with fail
     rw [<- HWA.out,<- HWB.out,<- HP.out]
     clear r0 r1 c0' idx
     go_loopw [34] (fun v34 wq=>∃ (j c2:Nat) (A2:Option Addr),v34=.int .i64 (j:Int)/\j<=k/\j<=long/\Aside0 (Blk wq p 98 #[.int .i64 2,.slice A2 j c2])/\Aside0 (wq.ownsRow wo.heap.size 5 1 (.slice A2 j c2) j (nums .u8 ((s.f1.take j).map (tbyte 2))))/\Aside0 (Below wo.heap.size wo wq)) (fun v34 _=>(k-intOf v34).toNat)
     case atStart=>exact⟨0,0,none,rfl,Nat.zero_le _,Nat.zero_le _,HPB,⟨⟨rfl,.inl ⟨rfl,rfl⟩⟩⟩,HLB⟩
     case round=>
      clear HPB HLB HSB HSB2 HWA HWB HBA
      obtain⟨j,c2,A2,rfl,hj,hjl,HPB,HO2,HLB⟩:=hrel
      have hj9:j<=1000:=by have:=HLO.out;omega
      have b0:=HPB.out.cell 0
      have b1:=HPB.out.cell 1
      have HBQ:=Aside0.mk (HB.out.trans (HLB.out.mono HB.out.size))
      have fin:∀ q:Act->World->Prop,True:=fun _=>trivial
      by_cases hjk:j<k
      ·obtain⟨ax,ea,ra⟩:=ints_at HG.out j hjk
       subst ea
       replace ra:=cell_up HLB.out ra
       obtain⟨x,hx⟩:∃ x,s.f1.getD j 0=x:=⟨_,rfl⟩
       rw [hx] at ra
       have hjs:j<s.f1.length:=by rw [HK.out];exact hjk
       have hxg:s.f1[j]=x:=by rw [<- hx,List.getD_eq_getElem?_getD,List.getElem?_eq_getElem hjs];rfl
       obtain⟨hx0,hx1⟩:=HSO.out.2 x (by rw [<- hxg];exact List.getElem_mem _)
       have HT:=Aside0.mk (show (s.f1.take (j+1)).map (tbyte 2)=(s.f1.take j).map (tbyte 2)++[tbyte 2 x] by rw [List.take_succ_eq_append_getElem hjs,hxg,List.map_append];rfl)
       have HLL:=Aside0.mk (show ((s.f1.take j).map (tbyte 2)).length=j by rw [List.length_map,List.length_take];omega)
       obtain⟨ys,hys⟩:∃ ys,(s.f1.take j).map (tbyte 2)=ys:=⟨_,rfl⟩
       rw [hys] at HO2 HT HLL
       have HYS:=Aside0.mk hys
       clear hx hxg hjs hys
       by_cases hjl2:j=long
       ·subst hjl2
        have HTS:=Aside0.mk (show tseg j s=⟨2,ys⟩ by unfold tseg;rw [HM.out,HMD.out,HYS.out])
        have HO9:=Aside0.mk (Kd.R_below HO.out HLB.out)
        have HNEW:=Aside0.mk (show ∀ k',(Value.slice A2 j c2).ownBlock=some k'->w.heap.size<=k'/\some k'≠(Value.slice Ao i co).ownBlock from fun k' hk'=>⟨Nat.le_trans HB.out.size (own_base HO2.out k' hk'),fun he=>by have h1:=Kd.R_lt HO.out k' he.symm;have h2:=own_base HO2.out k' hk';omega⟩)
        have HMA:=Aside0.mk (tseg_made 2 HO2.out HLL.out HB.out.size)
        go_wp2_with ((with_reducible refine gate_builtin (b:=.append) (xs:=#[.tmp 65,.tmp 67]) rfl ?_);at_builtin;refine Kd.R_append F.k98 (w0:=w) w.heap.size rfl (.tmp 65) (.tmp 67) 38 98 (.agg #[.int .i64 0,.slice none 0 0]) 32 rfl Tryz.underlying38 info98s rfl (by decide) (by decide) (.slice Ao i co) out ⟨2,ys⟩ [.int .i64 2,.slice A2 j c2] (fun k=>w.heap.size<=k) (fun k=>(Value.slice A2 j c2).ownBlock=some k) rfl rfl HMA.out HNEW.out (fun k hk=>Nat.le_trans HBQ.out.size hk) HO9.out HBQ.out HBQ.out.size ?bL ?_;(case bL=>(have:=HLN.out;have:=HMO.out;omega));intro v9 w9 hr9 hb9 hg9 hat9;rw [<- HTS.out,<- HTK.out] at hr9;have HR9:=Aside0.mk hr9;have HB9:=Aside0.mk hb9;clear hr9 hb9 hg9 hat9)
        go_roundw
        case rel=>exact⟨i+1,by go_num,by omega,by omega,HR9,HB9⟩
        case measure=>simp [intOf]<;>omega
       ·obtain⟨y,hy⟩:∃ y,tbyte 2 x=y:=⟨_,rfl⟩
        have hyx:y=(alCh (x%45).toNat):=by rw [<- hy];rfl
        rw [hy] at HT
        clear hy
        have HL1:=Aside0.mk (show (ys++[y]).length=j+1 by rw [List.length_append,HLL.out];rfl)
        have hx45:x%45=(((x%45).toNat:Nat):Int):=by omega
        have k52:=alphaByte wr (x%45).toNat (by omega)
        rw [<- hx45] at k52
        clear hx45
        go_wp2_with (first | (go_at_call 52;with_reducible (refine k52.mono ?_);rintro e wz ⟨rfl,rfl⟩) | ((with_reducible refine gate_builtin (b:=.append) (xs:=#[.tmp 59,.tmp 61]) rfl ?_);at_builtin;refine print_append_num (w0:=wo) wo.heap.size rfl (.tmp 59) (.tmp 61) 26 5 .u8 1 rfl Tryz.underlying26 F.info5 (by decide) (.slice A2 j c2) ys (alCh (x%45).toNat) rfl rfl ?aO HLB.out HLB.out.size ?aL ?_;(case aO=>(rw [HLL.out];exact HO2.out));(case aL=>(have:=HLO.out;rw [HLL.out];omega));intro v6 w6 ho6 hb6 hg6 hat6;rw [<- hyx,HL1.out,<- HT.out] at ho6;obtain⟨A6,c6,hv6⟩:=own_slice ho6;subst hv6;have HO6:=Aside0.mk ho6;have HB6:=Aside0.mk hb6;have HP6:=Aside0.mk (show Blk w6 p 98 #[.int .i64 2,.slice A2 j c2] from (hg6.block p HPB.out.lt (own_ne HO2.out HPB.out (by decide))).trans HPB.out);have d1:=HP6.out.cell 1;have f1:=HP6.out.frozen 1;clear ho6 hb6 hg6 hat6))
        clear d1 f1
        obtain⟨w7,hw7⟩:∃ w7,w7=w6.setCell ⟨p,1,none⟩ (.slice A6 (j+1) c6):=⟨_,rfl⟩
        rw [<- hw7]
        have hT7:Turn w6 w7 p:=by rw [hw7];exact Turn.set _ _ _ _
        have HP7:=Aside0.mk (show Blk w7 p 98 #[.int .i64 2,.slice A6 (j+1) c6] by rw [hw7];exact blk_set HP6.out 1 _)
        have HO7:=Aside0.mk (own_turn98 HO6.out HP6.out hT7)
        have HB7:=Aside0.mk (HB6.out.trans (hT7.below HPW.out))
        clear hw7 hT7
        go_roundw
        case rel=>exact⟨j+1,c6,A6,by go_num,by omega,by omega,HP7,HO7,HB7⟩
        case measure=>simp [intOf]<;>omega
      ·have hjk2:j=k:=by omega
       subst hjk2
       have HLL:=Aside0.mk (show ((s.f1.take j).map (tbyte 2)).length=j by rw [List.length_map,List.length_take];have:=HK.out;omega)
       obtain⟨ys,hys⟩:∃ ys,(s.f1.take j).map (tbyte 2)=ys:=⟨_,rfl⟩
       rw [hys] at HO2 HLL
       have HYS:=Aside0.mk hys
       clear hys
       have HTS:=Aside0.mk (show tseg long s=⟨2,ys⟩ by unfold tseg;rw [HM.out,HMD.out,<- HYS.out,List.take_of_length_le (show s.f1.length<=long by rw [HK.out];exact hjl),List.take_of_length_le (show s.f1.length<=j by rw [HK.out];exact Nat.le_refl _)])
       have HO9:=Aside0.mk (Kd.R_below HO.out HLB.out)
       have HNEW:=Aside0.mk (show ∀ k',(Value.slice A2 j c2).ownBlock=some k'->w.heap.size<=k'/\some k'≠(Value.slice Ao i co).ownBlock from fun k' hk'=>⟨Nat.le_trans HB.out.size (own_base HO2.out k' hk'),fun he=>by have h1:=Kd.R_lt HO.out k' he.symm;have h2:=own_base HO2.out k' hk';omega⟩)
       have HMA:=Aside0.mk (tseg_made 2 HO2.out HLL.out HB.out.size)
       go_wp2_with ((with_reducible refine gate_builtin (b:=.append) (xs:=#[.tmp 65,.tmp 67]) rfl ?_);at_builtin;refine Kd.R_append F.k98 (w0:=w) w.heap.size rfl (.tmp 65) (.tmp 67) 38 98 (.agg #[.int .i64 0,.slice none 0 0]) 32 rfl Tryz.underlying38 info98s rfl (by decide) (by decide) (.slice Ao i co) out ⟨2,ys⟩ [.int .i64 2,.slice A2 j c2] (fun k=>w.heap.size<=k) (fun k=>(Value.slice A2 j c2).ownBlock=some k) rfl rfl HMA.out HNEW.out (fun k hk=>Nat.le_trans HBQ.out.size hk) HO9.out HBQ.out HBQ.out.size ?bL ?_;(case bL=>(have:=HLN.out;have:=HMO.out;omega));intro v9 w9 hr9 hb9 hg9 hat9;rw [<- HTS.out,<- HTK.out] at hr9;have HR9:=Aside0.mk hr9;have HB9:=Aside0.mk hb9;clear hr9 hb9 hg9 hat9)
       go_roundw
       case rel=>exact⟨i+1,by go_num,by omega,by omega,HR9,HB9⟩
       case measure=>simp [intOf]<;>omega
    ·subst hcs
     go_wp2_with fail
     rw [<- HWA.out,<- HWB.out,<- HP.out]
     clear r0 r1 c0' idx
     go_loopw [34] (fun v34 wq=>∃ (j c2:Nat) (A2:Option Addr),v34=.int .i64 (j:Int)/\j<=k/\j<=long/\Aside0 (Blk wq p 98 #[.int .i64 4,.slice A2 j c2])/\Aside0 (wq.ownsRow wo.heap.size 5 1 (.slice A2 j c2) j (nums .u8 ((s.f1.take j).map (tbyte 4))))/\Aside0 (Below wo.heap.size wo wq)) (fun v34 _=>(k-intOf v34).toNat)
     case atStart=>exact⟨0,0,none,rfl,Nat.zero_le _,Nat.zero_le _,HPB,⟨⟨rfl,.inl ⟨rfl,rfl⟩⟩⟩,HLB⟩
     case round=>
      clear HPB HLB HSB HSB2 HWA HWB HBA
      obtain⟨j,c2,A2,rfl,hj,hjl,HPB,HO2,HLB⟩:=hrel
      have hj9:j<=1000:=by have:=HLO.out;omega
      have b0:=HPB.out.cell 0
      have b1:=HPB.out.cell 1
      have HBQ:=Aside0.mk (HB.out.trans (HLB.out.mono HB.out.size))
      have fin:∀ q:Act->World->Prop,True:=fun _=>trivial
      by_cases hjk:j<k
      ·obtain⟨ax,ea,ra⟩:=ints_at HG.out j hjk
       subst ea
       replace ra:=cell_up HLB.out ra
       obtain⟨x,hx⟩:∃ x,s.f1.getD j 0=x:=⟨_,rfl⟩
       rw [hx] at ra
       have hjs:j<s.f1.length:=by rw [HK.out];exact hjk
       have hxg:s.f1[j]=x:=by rw [<- hx,List.getD_eq_getElem?_getD,List.getElem?_eq_getElem hjs];rfl
       obtain⟨hx0,hx1⟩:=HSO.out.2 x (by rw [<- hxg];exact List.getElem_mem _)
       have HT:=Aside0.mk (show (s.f1.take (j+1)).map (tbyte 4)=(s.f1.take j).map (tbyte 4)++[tbyte 4 x] by rw [List.take_succ_eq_append_getElem hjs,hxg,List.map_append];rfl)
       have HLL:=Aside0.mk (show ((s.f1.take j).map (tbyte 4)).length=j by rw [List.length_map,List.length_take];omega)
       obtain⟨ys,hys⟩:∃ ys,(s.f1.take j).map (tbyte 4)=ys:=⟨_,rfl⟩
       rw [hys] at HO2 HT HLL
       have HYS:=Aside0.mk hys
       clear hx hxg hjs hys
       by_cases hjl2:j=long
       ·subst hjl2
        have HTS:=Aside0.mk (show tseg j s=⟨4,ys⟩ by unfold tseg;rw [HM.out,HMD.out,HYS.out])
        have HO9:=Aside0.mk (Kd.R_below HO.out HLB.out)
        have HNEW:=Aside0.mk (show ∀ k',(Value.slice A2 j c2).ownBlock=some k'->w.heap.size<=k'/\some k'≠(Value.slice Ao i co).ownBlock from fun k' hk'=>⟨Nat.le_trans HB.out.size (own_base HO2.out k' hk'),fun he=>by have h1:=Kd.R_lt HO.out k' he.symm;have h2:=own_base HO2.out k' hk';omega⟩)
        have HMA:=Aside0.mk (tseg_made 4 HO2.out HLL.out HB.out.size)
        go_wp2_with ((with_reducible refine gate_builtin (b:=.append) (xs:=#[.tmp 65,.tmp 67]) rfl ?_);at_builtin;refine Kd.R_append F.k98 (w0:=w) w.heap.size rfl (.tmp 65) (.tmp 67) 38 98 (.agg #[.int .i64 0,.slice none 0 0]) 32 rfl Tryz.underlying38 info98s rfl (by decide) (by decide) (.slice Ao i co) out ⟨4,ys⟩ [.int .i64 4,.slice A2 j c2] (fun k=>w.heap.size<=k) (fun k=>(Value.slice A2 j c2).ownBlock=some k) rfl rfl HMA.out HNEW.out (fun k hk=>Nat.le_trans HBQ.out.size hk) HO9.out HBQ.out HBQ.out.size ?bL ?_;(case bL=>(have:=HLN.out;have:=HMO.out;omega));intro v9 w9 hr9 hb9 hg9 hat9;rw [<- HTS.out,<- HTK.out] at hr9;have HR9:=Aside0.mk hr9;have HB9:=Aside0.mk hb9;clear hr9 hb9 hg9 hat9)
        go_roundw
        case rel=>exact⟨i+1,by go_num,by omega,by omega,HR9,HB9⟩
        case measure=>simp [intOf]<;>omega
       ·obtain⟨y,hy⟩:∃ y,tbyte 4 x=y:=⟨_,rfl⟩
        have hyx:y=(32+x%95):=by rw [<- hy];rfl
        rw [hy] at HT
        clear hy
        have HL1:=Aside0.mk (show (ys++[y]).length=j+1 by rw [List.length_append,HLL.out];rfl)
        skip
        go_wp2_with (first | ((with_reducible refine gate_builtin (b:=.append) (xs:=#[.tmp 59,.tmp 61]) rfl ?_);at_builtin;refine print_append_num (w0:=wo) wo.heap.size rfl (.tmp 59) (.tmp 61) 26 5 .u8 1 rfl Tryz.underlying26 F.info5 (by decide) (.slice A2 j c2) ys (32+x%95) rfl rfl ?aO HLB.out HLB.out.size ?aL ?_;(case aO=>(rw [HLL.out];exact HO2.out));(case aL=>(have:=HLO.out;rw [HLL.out];omega));intro v6 w6 ho6 hb6 hg6 hat6;rw [<- hyx,HL1.out,<- HT.out] at ho6;obtain⟨A6,c6,hv6⟩:=own_slice ho6;subst hv6;have HO6:=Aside0.mk ho6;have HB6:=Aside0.mk hb6;have HP6:=Aside0.mk (show Blk w6 p 98 #[.int .i64 4,.slice A2 j c2] from (hg6.block p HPB.out.lt (own_ne HO2.out HPB.out (by decide))).trans HPB.out);have d1:=HP6.out.cell 1;have f1:=HP6.out.frozen 1;clear ho6 hb6 hg6 hat6))
        clear d1 f1
        obtain⟨w7,hw7⟩:∃ w7,w7=w6.setCell ⟨p,1,none⟩ (.slice A6 (j+1) c6):=⟨_,rfl⟩
        rw [<- hw7]
        have hT7:Turn w6 w7 p:=by rw [hw7];exact Turn.set _ _ _ _
        have HP7:=Aside0.mk (show Blk w7 p 98 #[.int .i64 4,.slice A6 (j+1) c6] by rw [hw7];exact blk_set HP6.out 1 _)
        have HO7:=Aside0.mk (own_turn98 HO6.out HP6.out hT7)
        have HB7:=Aside0.mk (HB6.out.trans (hT7.below HPW.out))
        clear hw7 hT7
        go_roundw
        case rel=>exact⟨j+1,c6,A6,by go_num,by omega,by omega,HP7,HO7,HB7⟩
        case measure=>simp [intOf]<;>omega
      ·have hjk2:j=k:=by omega
       subst hjk2
       have HLL:=Aside0.mk (show ((s.f1.take j).map (tbyte 4)).length=j by rw [List.length_map,List.length_take];have:=HK.out;omega)
       obtain⟨ys,hys⟩:∃ ys,(s.f1.take j).map (tbyte 4)=ys:=⟨_,rfl⟩
       rw [hys] at HO2 HLL
       have HYS:=Aside0.mk hys
       clear hys
       have HTS:=Aside0.mk (show tseg long s=⟨4,ys⟩ by unfold tseg;rw [HM.out,HMD.out,<- HYS.out,List.take_of_length_le (show s.f1.length<=long by rw [HK.out];exact hjl),List.take_of_length_le (show s.f1.length<=j by rw [HK.out];exact Nat.le_refl _)])
       have HO9:=Aside0.mk (Kd.R_below HO.out HLB.out)
       have HNEW:=Aside0.mk (show ∀ k',(Value.slice A2 j c2).ownBlock=some k'->w.heap.size<=k'/\some k'≠(Value.slice Ao i co).ownBlock from fun k' hk'=>⟨Nat.le_trans HB.out.size (own_base HO2.out k' hk'),fun he=>by have h1:=Kd.R_lt HO.out k' he.symm;have h2:=own_base HO2.out k' hk';omega⟩)
       have HMA:=Aside0.mk (tseg_made 4 HO2.out HLL.out HB.out.size)
       go_wp2_with ((with_reducible refine gate_builtin (b:=.append) (xs:=#[.tmp 65,.tmp 67]) rfl ?_);at_builtin;refine Kd.R_append F.k98 (w0:=w) w.heap.size rfl (.tmp 65) (.tmp 67) 38 98 (.agg #[.int .i64 0,.slice none 0 0]) 32 rfl Tryz.underlying38 info98s rfl (by decide) (by decide) (.slice Ao i co) out ⟨4,ys⟩ [.int .i64 4,.slice A2 j c2] (fun k=>w.heap.size<=k) (fun k=>(Value.slice A2 j c2).ownBlock=some k) rfl rfl HMA.out HNEW.out (fun k hk=>Nat.le_trans HBQ.out.size hk) HO9.out HBQ.out HBQ.out.size ?bL ?_;(case bL=>(have:=HLN.out;have:=HMO.out;omega));intro v9 w9 hr9 hb9 hg9 hat9;rw [<- HTS.out,<- HTK.out] at hr9;have HR9:=Aside0.mk hr9;have HB9:=Aside0.mk hb9;clear hr9 hb9 hg9 hat9)
       go_roundw
       case rel=>exact⟨i+1,by go_num,by omega,by omega,HR9,HB9⟩
       case measure=>simp [intOf]<;>omega
  ·have hie:i=n:=by omega
   have HE:=Aside0.mk (show (l.take i).map (tseg long)=segsOf most long l by unfold segsOf;rw [List.take_of_length_le (show l.length<=i by rw [HN.out];omega),List.take_of_length_le (show l.length<=most by rw [HN.out];omega)])
   clear hie
   go_wp2_with fail
   go_ret
   exact⟨_,rfl,by rw [<- HE.out];exact HO.out,HB.out⟩
end Go.Proofs.YtgccjgpdjkhpdaaGreat.B
