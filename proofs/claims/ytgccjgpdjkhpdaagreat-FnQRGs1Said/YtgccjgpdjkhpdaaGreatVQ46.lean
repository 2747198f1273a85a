import Derived.Test.YtgccjgpdjkhpdaaGreatVQ38
import Derived.Test.YtgccjgpdjkhpdaaGreatVQ45
import Derived.Test.YtgccjgpdjkhpdaaGreatVQ48
/-! Own texts of this claim, part 46. -/
namespace Go.Proofs.YtgccjgpdjkhpdaaGreat.B
open Go.RowKit Go.Proofs.YtgccjgpdjkhpdaaGreatW.PrintWords Go.Proofs.YtgccjgpdjkhpdaaGreatW.PrintLast Go.Proofs.YtgccjgpdjkhpdaaGreatW.PrintMore
set_option linter.unusedVariables false
set_option linter.unusedSimpArgs false
theorem fits9_some (a:Int)(t:List Int):∃ b,F.laws_zzFits9.f a t=some b:=by
 unfold F.laws_zzFits9.f
 split<;>exact⟨_,rfl⟩
theorem fits8_some (l:List F.S98):∃ b,Ev (fun k=>F.laws_zzFits8.f k l) b:=by
 by_cases hl:(l.length:Int)>2147483647
 ·exact⟨false,Ev.congr (fun k=>by rw [F.laws_zzFits8.f,if_pos hl]) (Ev.now _)⟩
 ·have H:∀ (d i:Nat),i+d=l.length->∃ b,Ev (fun k=>F.laws_zzFits8.l0 k l (l.length:Int) (i:Int)) b:=by
   intro d
   induction d with
   | zero=>
    intro i hi
    refine⟨true,Ev.step (f:=fun _=>some true) (fun k=>?_) (Ev.now _)⟩
    rw [F.laws_zzFits8.l0,if_neg (by omega)]
   | succ d ih=>
    intro i hi
    obtain⟨b,hb⟩:=fits9_some ((F.rd_T98 l (i:Int)).f0) ((F.rd_T98 l (i:Int)).f1)
    cases b with
    | false=>
     refine⟨false,Ev.step (f:=fun _=>some false) (fun k=>?_) (Ev.now _)⟩
     rw [F.laws_zzFits8.l0,if_pos (by omega),if_pos (by omega),if_pos (by omega),hb]
     rfl
    | true=>
     obtain⟨r,hr⟩:=ih (i+1) (by omega)
     refine⟨r,Ev.step (fun k=>?_) hr⟩
     rw [F.laws_zzFits8.l0,if_pos (by omega),if_pos (by omega),if_pos (by omega),hb,Option.bind_some,if_pos rfl,w64n i (by omega)]
  obtain⟨b,hb⟩:=H l.length 0 (by omega)
  exact⟨b,Ev.congr (fun k=>by rw [F.laws_zzFits8.f,if_neg hl];rfl) hb⟩
theorem tbyte_in (md x:Int)(hx:0<=x/\x<=255):32<=tbyte md x/\tbyte md x<=126:=by
 unfold tbyte
 split
 ·omega
 ·split
  ·have:=alCh_range ⟨(x%45).toNat,by omega⟩
   simp only at this
   omega
  ·omega
theorem tseg_ok (long:Nat)(s:F.S98)(v:Nat)(hs:SegIn s)(hl:long<=200):SegOK (tseg long s) v/\(tseg long s).f1.all isAsc=true:=by
 have hmem:∀ y∈(tseg long s).f1,∃ x,(0<=x/\x<=255)/\y=tbyte (tmode s.f0) x:=by
  intro y hy
  obtain⟨x,hx,rfl⟩:=List.mem_map.1 hy
  exact⟨x,hs.2 x (List.mem_of_mem_take hx),rfl⟩
 have hlen:(tseg long s).f1.length<=200:=by
  unfold tseg
  rw [List.length_map,List.length_take]
  omega
 refine⟨⟨tmode_cases _,?_,?_,?_,?_,?_⟩,?_⟩
 ·intro hm y hy
  obtain⟨x,hx,rfl⟩:=hmem y hy
  have hm:tmode s.f0=1:=hm
  unfold tbyte isDig
  rw [if_pos hm]
  omega
 ·intro hm y hy
  obtain⟨x,hx,rfl⟩:=hmem y hy
  have hm:tmode s.f0=2:=hm
  unfold tbyte
  rw [if_neg (by omega),if_pos hm]
  have h1:(x%45).toNat<45:=by omega
  rw [alNum_look ⟨_,h1⟩]
  exact h1
 ·intro y hy
  obtain⟨x,hx,rfl⟩:=hmem y hy
  have:=tbyte_in (tmode s.f0) x hx
  omega
 ·have h8:8<=cntBits (tseg long s).f0.toNat v:=by
   have:(tseg long s).f0=1\/(tseg long s).f0=2\/(tseg long s).f0=4:=tmode_cases _
   unfold cntBits
   rcases this with e | e | e<;>rw [e]<;>simp<;>(repeat' split)<;>omega
  have:=Nat.pow_le_pow_right (show 0<2 by decide) h8
  omega
 ·omega
 ·rw [List.all_eq_true]
  intro y hy
  obtain⟨x,hx,rfl⟩:=hmem y hy
  have:=tbyte_in (tmode s.f0) x hx
  unfold isAsc
  exact decide_eq_true this
set_option maxHeartbeats 8000000 in
set_option maxRecDepth 8000 in
theorem gs1_law (w:World)(A:Option Addr)(c:Nat)(l:List F.S98)(a b m:Nat)(wd:Bool)(hS:Kd.C F.k98 w A l.length l)(hc:l.length<=c)(hin:∀ s∈l,SegIn s)(ha:a<256)(hb:b<256)(hm:m<256) :
  Calls Tryz.prog 7 #[.slice A l.length c,.int .u8 (a:Int),.int .u8 (b:Int),.int .u8 (m:Int),.bool wd] w fun e w'=>e=.returned (.bool true)/\Below w.heap.size w w':=by
 obtain⟨ft,hft⟩:=fits8_some l
 obtain⟨k,hk⟩:=hft.rounds
 have c16:=F.laws_zzFits8.calls k A c l ft w hS hc hk
 have HS:=Aside0.mk hS
 have HIN:=Aside0.mk hin
 clear hft hk
 cases ft with
 | false=>
  clear hS hc hin
  go_enter Tryz.func7,Tryz.ntmps7
  go_wp2_with (go_at_call 16;refine c16.mono ?_;rintro e w' ⟨rfl,hd⟩)
  go_ret
  exact⟨rfl,hd⟩
 | true=>
  have c11:=fun W=>F.laws_qrVersion.calls (a:Int) _ W (version_some a ha)
  have c18:=fun W=>F.laws_qrLevel.calls (b:Int) _ W (level_some b hb)
  have c20:=fun W=>F.laws_qrMask.calls (m:Int) _ W (mask_some m hm)
  obtain⟨v,hv⟩:∃ v,1+a%40=v:=⟨_,rfl⟩
  obtain⟨lv,hlv⟩:∃ lv,b%4=lv:=⟨_,rfl⟩
  obtain⟨mk,hmk⟩:∃ mk,m%8=mk:=⟨_,rfl⟩
  rw [hv] at c11
  rw [hlv] at c18
  rw [hmk] at c20
  have hv1:1<=v/\v<=40:=by omega
  have hl4:lv<4:=by omega
  have hm8:mk<8:=by omega
  have C11:=Aside0.mk c11
  have C18:=Aside0.mk c18
  have C20:=Aside0.mk c20
  obtain⟨segs,hsegs⟩:∃ segs,segsOf 4 120 l=segs:=⟨_,rfl⟩
  have hok:∀ s∈segs,SegOK s v/\s.f1.all isAsc=true:=by
   intro s hs
   rw [<- hsegs] at hs
   obtain⟨s0,hs0,rfl⟩:=List.mem_map.1 hs
   exact tseg_ok 120 s0 v (hin s0 (List.mem_of_mem_take hs0)) (by omega)
  have hsl:segs.length<=4:=by rw [<- hsegs];unfold segsOf;rw [List.length_map,List.length_take];omega
  have C17:=Aside0.mk (fun (W:World) (hb2:Below w.heap.size w W)=>by
   have h:=seg17 W A c l.length 4 120 l (Kd.C_below hS hb2) rfl hin (by omega) (by omega)
   rw [hsegs] at h
   exact h)
  have HOK:=Aside0.mk hok
  have HASC:=Aside0.mk (show ascS segs=true by unfold ascS;rw [List.all_eq_true];exact fun s hs=>(hok s hs).2)
  have HBD:=Aside0.mk (show ∀ s∈segs,s.f1.length<=10000/\∀ x∈s.f1,0<=x/\x<=255 from fun s hs=>⟨by have:=(hok s hs).1.short;omega,(hok s hs).1.by_⟩)
  obtain⟨sn,hsn⟩:∃ sn,segs.length=sn:=⟨_,rfl⟩
  have HSN:=Aside0.mk hsn
  have hsl':sn<=4:=by omega
  clear hS hc hin hv hlv hmk c11 c18 c20 hsegs hok hsn ha hb hm
  by_cases hfit:(sgStream (segs.map toSg) v).length+8<=8*roomD v lv
  ·obtain⟨cf,hcf,hpat⟩:=patterns_run _ (lv:Int) (mk:Int) (fmtEv lv mk hl4 hm8) v hv1
   obtain⟨p,hrd⟩:=rd_gs v (roomD v lv) (segs.map toSg) (fun s hs=>by obtain⟨s0,hs0,rfl⟩:=List.mem_map.1 hs;exact (HOK.out s0 hs0).1.ok) hfit
   have hlen:=gsWords_len (sgStream (segs.map toSg) v) (roomD v lv) hfit
   have hlt:AllLt 8 (gsWords (sgStream (segs.map toSg) v) (roomD v lv)):=pack_lt _
   obtain⟨st,hst⟩:∃ st,st=PS.mk p (sgText true (segs.map toSg)) (sgSegs (segs.map toSg)) true (-1) (-1):=⟨_,rfl⟩
   rw [<- hst] at hrd
   have HTX:=Aside0.mk (show st.out=gsS segs by rw [hst];exact gsS_text segs (fun s hs=>(HOK.out s hs).1.mode))
   have C30:=Aside0.mk (fun (W:World) (A':Option Addr) (c':Nat) (h:Kd.C F.k98 W A' sn segs)=>words30 W A' c' sn v lv segs h HSN.out hv1 hl4 (fun s hs=>(HOK.out s hs).1) (by omega) hfit)
   have C31:=Aside0.mk (fun (W:World) (A':Option Addr) (c':Nat) (h:Kd.C F.k98 W A' sn segs)=>gs31 W A' c' sn segs h HSN.out HBD.out (by omega))
   have hd:=roomD_pos v lv hv1 hl4
   have hr:=room_pos v hv1
   obtain⟨ws,hws⟩:∃ ws,gsWords (sgStream (segs.map toSg) v) (roomD v lv)=ws:=⟨_,rfl⟩
   rw [hws] at hrd hlen hlt C30
   have C25:=Aside0.mk (fun (W:World) (q cN:Nat) (h1:ByteAt W q 0 ws) (h2:q<W.heap.size)=>parse25 W q v lv (roomD v lv) cN ws st h1 h2 hlen hd.1 (by omega) hv1 hl4 hlt hrd)
   have K27:=Aside0.mk (fun W q cN h1 h2 h3=>split27 W v lv q (roomD v lv) cN ws hv1 hl4 h1 h2 hlen rfl hlt h3)
   have K26:=Aside0.mk (fun W B vo qs cs h=>mixed26 W v lv B vo ws qs cs hv1 hl4 h hlen hlt)
   have hxl:(symWords v lv ws).length=roomN v/8:=by unfold symWords;rw [mixed_len,(lay_at v lv hv1 hl4).tot]
   have hx8:=symWords_lt v lv ws hlt
   have hsb:=streamBits_len (symWords v lv ws)
   rw [hxl] at hsb
   have K29:=Aside0.mk (fun W q cN h1 h2=>bits29 W q (roomN v/8) cN (symWords v lv ws) h1 h2 hxl (by omega) hx8)
   have K28:=Aside0.mk (fun W qb cb h1 h2=>mods28 W v lv mk qb (8*(roomN v/8)) cb (streamBits (symWords v lv ws)) cf hv1 hm8 hsb h1 h2 hpat)
   have HXL:=Aside0.mk hxl
   have HSB:=Aside0.mk hsb
   have C12:=Aside0.mk (fun (W:World) (B g cap:Nat) (q cp:Nat->Nat) (h1:17+4*v<=cap) (h2:Brows W B g (17+4*v) q cp (putAll (modBit (streamBits (symWords v lv ws)) mk) (way (17+4*v) (fpB v (ctrs v))) 0 cf))=>decodeSym W B g cap v lv mk q cp ws cf st h1 h2 hv1 hl4 hm8 hlen hlt hcf hrd)
   clear hcf hpat hrd hlen hlt hst hws hfit HOK HASC HBD hxl hx8 hsb
   obtain⟨N,hN⟩:∃ N,17+4*v=N:=⟨_,rfl⟩
   rw [hN] at K28 C12
   obtain⟨mz,hmz⟩:∃ mz,putAll (modBit (streamBits (symWords v lv ws)) mk) (way N (fpB v (ctrs v))) 0 cf=mz:=⟨_,rfl⟩
   rw [hmz] at K28 C12
   obtain⟨D,hD⟩:∃ D,roomD v lv=D:=⟨_,rfl⟩
   obtain⟨T,hT⟩:∃ T,roomN v/8=T:=⟨_,rfl⟩
   rw [hD] at K27 C30 C25 hd
   rw [hT] at K26 K29 K28 HXL HSB hr
   clear hN hmz hD hT
   go_enter Tryz.func7,Tryz.ntmps7
   go_wp2_with fail
   refine c16.mono ?_
   rintro e w1 ⟨rfl,hb1⟩
   have HB1:=Aside0.mk hb1
   clear hb1
   go_wp2_with fail
   refine (C17.out w1 HB1.out).mono ?_
   rintro e w2 ⟨v2,rfl,hR2,hb2⟩
   obtain⟨A2,c2,rfl,hc2,hC2⟩:=Kd.R_reads hR2
   rw [HSN.out] at hc2 hC2 ⊢
   have HB2:=Aside0.mk (HB1.out.trans (hb2.mono HB1.out.size))
   have HC2:=Aside0.mk hC2
   clear hR2 hb2 hC2
   go_wp2_with fail
   refine (C11.out w2).mono ?_
   rintro e w3 ⟨rfl,hd3⟩
   have HB3:=Aside0.mk (HB2.out.trans (hd3.below.mono HB2.out.size))
   have HC3:=Aside0.mk (Kd.C_below HC2.out hd3.below)
   clear hd3
   go_wp2_with fail
   refine (C18.out w3).mono ?_
   rintro e w4 ⟨rfl,hd4⟩
   have HB4:=Aside0.mk (HB3.out.trans (hd4.below.mono HB3.out.size))
   have HC4:=Aside0.mk (Kd.C_below HC3.out hd4.below)
   clear hd4
   go_wp2_with fail
   refine (C30.out w4 A2 c2 HC4.out).mono ?_
   rintro e w5 ⟨v5,rfl,ho5,hb5⟩
   obtain⟨q5,c5,rfl,hq5,hc5,⟨cs5,hk5⟩,hby5,_⟩:=own_bytes ho5 hd.1
   have HB5:=Aside0.mk (HB4.out.trans (hb5.mono HB4.out.size))
   have HC5:=Aside0.mk (Kd.C_below HC4.out hb5)
   have HBY5:=Aside0.mk hby5
   have HQ5:=Aside0.mk hk5.lt
   have HCC5:=Aside0.mk hc5
   clear ho5 hb5 hby5 hk5 hc5 hq5
   obtain⟨w6,hw6⟩:∃ w6,w6=w5.alloc (.cells #[.string ⟨#[]⟩,.slice none 0 0,.slice none 0 0,.string ⟨#[]⟩,.int .i64 0,.int .i64 0,.int .i64 0,.int .i64 0] 29):=⟨_,rfl⟩
   obtain⟨pd,hpd⟩:∃ pd,pd=w5.heap.size:=⟨_,rfl⟩
   have HW6:=Aside0.mk hw6
   have HPD:=Aside0.mk hpd
   have HB6:=Aside0.mk (show Below w.heap.size w w6 by rw [hw6];exact HB5.out.alloc HB5.out.size _)
   have HL6:=Aside0.mk (show Below w5.heap.size w5 w6 by rw [hw6];exact below_alloc (Below.refl _ _) _)
   have HD6:=Aside0.mk (show Blk w6 pd 29 #[.string ⟨#[]⟩,.slice none 0 0,.slice none 0 0,.string ⟨#[]⟩,.int .i64 0,.int .i64 0,.int .i64 0,.int .i64 0] by rw [hw6,hpd];exact Blk.new _ _ _)
   have HC6:=Aside0.mk (Kd.C_below HC5.out HL6.out)
   have HBY6:=Aside0.mk (HBY5.out.below HL6.out HQ5.out)
   have HQ6:=Aside0.mk (Nat.lt_of_lt_of_le HQ5.out HL6.out.size)
   have HPW:=Aside0.mk (show w.heap.size<=pd by rw [hpd];exact HB5.out.size)
   clear hw6 hpd
   cases wd with
   | true=>
    go_wp2_with fail
    rw [<- HW6.out,<- HPD.out]
    refine (C25.out w6 q5 c5 HBY6.out HQ6.out).mono ?_
    rintro e w7 ⟨d,rfl,hd7,hb7⟩
    have HL7:=Aside0.mk hb7
    have HB7:=Aside0.mk (HB6.out.trans (hb7.mono HB6.out.size))
    clear hb7
    obtain⟨Ar,cr,As,cs,rfl,h1,h2⟩:=hd7
    have HD7:=Aside0.mk (HD6.out.below HL7.out HD6.out.lt)
    have HC7:=Aside0.mk (Kd.C_below HC6.out HL7.out)
    obtain⟨md,hmd⟩:∃ md:Int,(if st.fc then 3 else 1)=md:=⟨_,rfl⟩
    obtain⟨sq,hsq⟩:∃ sq,st.sq=sq:=⟨_,rfl⟩
    obtain⟨par,hpar⟩:∃ par,st.par=par:=⟨_,rfl⟩
    obtain⟨nm,hnm⟩:∃ nm,lvName lv=nm:=⟨_,rfl⟩
    obtain⟨n2,hn2⟩:∃ n2,st.segs.length=n2:=⟨_,rfl⟩
    obtain⟨nw,hnw⟩:∃ nw,ws.length=nw:=⟨_,rfl⟩
    rw [HTX.out,hmd,hsq,hpar,hnm,hn2,hnw]
    have K31:=Aside0.mk C31.out
    obtain⟨t,ht⟩:∃ t,strOfNums (gsS segs)=t:=⟨_,rfl⟩
    rw [ht] at K31 ⊢
    have d0:=HD7.out.cell 0
    have d1:=HD7.out.cell 1
    have d2:=HD7.out.cell 2
    have d3:=HD7.out.cell 3
    have d4:=HD7.out.cell 4
    have d5:=HD7.out.cell 5
    have d6:=HD7.out.cell 6
    have d7:=HD7.out.cell 7
    have f0:=HD7.out.frozen 0
    have f1:=HD7.out.frozen 1
    have f2:=HD7.out.frozen 2
    have f3:=HD7.out.frozen 3
    have f4:=HD7.out.frozen 4
    have f5:=HD7.out.frozen 5
    have f6:=HD7.out.frozen 6
    have f7:=HD7.out.frozen 7
    clear h1 h2 hmd hsq hpar hnm hn2 hnw ht
    go_wp2
    clear d0 d1 d2 d3 d4 d5 d6 d7 f0 f1 f2 f3 f4 f5 f6 f7
    obtain⟨w8,hw8⟩:∃ w8,w8=(((((((w7.setCell ⟨pd,0,none⟩ (.string t)).setCell ⟨pd,1,none⟩ (.slice Ar nw cr)).setCell ⟨pd,2,none⟩ (.slice As n2 cs)).setCell ⟨pd,3,none⟩ (.string nm)).setCell ⟨pd,4,none⟩ (.int .i64 0)).setCell ⟨pd,5,none⟩ (.int .i64 sq)).setCell ⟨pd,6,none⟩ (.int .i64 par)).setCell ⟨pd,7,none⟩ (.int .i64 md):=⟨_,rfl⟩
    rw [<- hw8]
    have hT:Turn w7 w8 pd:=by
     rw [hw8]
     exact (((((((Turn.set _ _ _ _).trans (Turn.set _ _ _ _)).trans (Turn.set _ _ _ _)).trans (Turn.set _ _ _ _)).trans (Turn.set _ _ _ _)).trans (Turn.set _ _ _ _)).trans (Turn.set _ _ _ _)).trans (Turn.set _ _ _ _)
    have hD8:Blk w8 pd 29 #[.string t,.slice Ar nw cr,.slice As n2 cs,.string nm,.int .i64 0,.int .i64 sq,.int .i64 par,.int .i64 md]:=by
     rw [hw8]
     exact blk_set (blk_set (blk_set (blk_set (blk_set (blk_set (blk_set (blk_set HD7.out 0 _) 1 _) 2 _) 3 _) 4 _) 5 _) 6 _) 7 _
    have HB8:=Aside0.mk (HB7.out.trans (hT.below HPW.out))
    have HC8:=Aside0.mk (Kd.C_below HC5.out ((HL6.out.trans (HL7.out.mono HL6.out.size)).trans (hT.below (show w5.heap.size<=pd by rw [HPD.out];exact Nat.le_refl _))))
    have HD8:=Aside0.mk hD8
    have HBD:=Aside0.mk (show Below w.heap.size w w8.drew from ⟨HB8.out.os,HB8.out.tape,HB8.out.output,HB8.out.size,HB8.out.block⟩)
    have HKD:=Aside0.mk (show Blk w8.drew pd 29 _ from HD8.out)
    have k31:=K31.out w8.drew A2 c2 (Kd.C_below HC8.out (show Below w8.heap.size w8 w8.drew from ⟨rfl,rfl,rfl,Nat.le_refl _,fun _ _=>rfl⟩))
    have e0:=HD8.out.cell 0
    have e0d:w8.drew.cell? ⟨pd,0,none⟩=some (.string t):=HKD.out.cell 0
    clear hw8 hT hD8
    go_region_with (go_at_call 31;with_reducible (refine k31.mono ?_);rintro e w9 ⟨rfl,hb9⟩;have HB9:=Aside0.mk (HBD.out.trans (hb9.mono HBD.out.size));have g0:=(Blk.below HKD.out hb9 HKD.out.lt).cell 0;clear hb9)
    all_goals
     clear e0 e0d
     go_wp2_with fail
     go_ret
     exact⟨rfl,HB9.out⟩
   | false=>
    have k27:=K27.out w6 q5 c5 HBY6.out HQ6.out HCC5.out
    go_wp2_with fail
    rw [<- HW6.out,<- HPD.out]
    refine k27.mono ?_
    rintro e0 wa ⟨vo,qs,cs,rfl,hR,hba⟩
    have HLa:=Aside0.mk hba
    have k26:=K26.out wa _ vo qs cs hR
    clear hR hba k27
    go_wp2_with fail
    refine k26.mono ?_
    rintro e0 wb ⟨vb,rfl,hob,hbb⟩
    have HLb:=Aside0.mk (HLa.out.trans (hbb.mono HLa.out.size))
    obtain⟨qb,cb,rfl,hqb,hcb,⟨csb,hkb⟩,hbyb,_⟩:=own_bytes hob hr.1
    have k29:=K29.out wb qb cb hbyb hkb.lt
    clear hob hbb hbyb hkb k26
    go_wp2_with fail
    refine k29.mono ?_
    rintro e0 wc ⟨vc,rfl,hoc,hbc⟩
    have HLc:=Aside0.mk (HLb.out.trans (hbc.mono HLb.out.size))
    obtain⟨qc,cc,rfl,hqc,hbits⟩:=bool_own' hoc HSB.out (by omega)
    have HBT:=Aside0.mk (fun W (hb:Below wc.heap.size wc W)=>show ∀ i,i<8*T->W.cell? ⟨qc,i,none⟩=some (.bool ((streamBits (symWords v lv ws)).getD i false)) from fun i hi=>(hb.cell hqc).trans (hbits i hi))
    have HQC:=Aside0.mk hqc
    clear hoc hbc hbits hqc k29
    go_wp2_with fail
    refine (C20.out wc).mono ?_
    rintro e0 wd2 ⟨rfl,hdd⟩
    have HLd:=Aside0.mk (HLc.out.trans (hdd.below.mono HLc.out.size))
    have k28:=K28.out wd2 qc cc (Nat.lt_of_lt_of_le HQC.out hdd.below.size) (HBT.out wd2 hdd.below)
    clear hdd
    go_wp2_with fail
    refine k28.mono ?_
    rintro e0 we ⟨ge,cape,qe,cpe,rfl,hcape,hbre,hbe⟩
    have HLe:=Aside0.mk (HLd.out.trans (hbe.mono HLd.out.size))
    have HBRE:=Aside0.mk hbre
    clear hbe hbre k28
    go_wp2_with fail
    refine (C12.out we _ ge cape qe cpe hcape.1 HBRE.out).mono ?_
    rintro e w7 ⟨d,rfl,hd7,hb7⟩
    have HL7:=Aside0.mk (HLe.out.trans (hb7.mono HLe.out.size))
    have HB7:=Aside0.mk (HB6.out.trans (HL7.out.mono HB6.out.size))
    clear hb7
    obtain⟨Ar,cr,As,cs,rfl,h1,h2⟩:=hd7
    have HD7:=Aside0.mk (HD6.out.below HL7.out HD6.out.lt)
    have HC7:=Aside0.mk (Kd.C_below HC6.out HL7.out)
    obtain⟨md,hmd⟩:∃ md:Int,(if st.fc then 3 else 1)=md:=⟨_,rfl⟩
    obtain⟨sq,hsq⟩:∃ sq,st.sq=sq:=⟨_,rfl⟩
    obtain⟨par,hpar⟩:∃ par,st.par=par:=⟨_,rfl⟩
    obtain⟨nm,hnm⟩:∃ nm,lvName lv=nm:=⟨_,rfl⟩
    obtain⟨n2,hn2⟩:∃ n2,st.segs.length=n2:=⟨_,rfl⟩
    obtain⟨nw,hnw⟩:∃ nw,ws.length=nw:=⟨_,rfl⟩
    rw [HTX.out,hmd,hsq,hpar,hnm,hn2,hnw]
    have K31:=Aside0.mk C31.out
    obtain⟨t,ht⟩:∃ t,strOfNums (gsS segs)=t:=⟨_,rfl⟩
    rw [ht] at K31 ⊢
    have d0:=HD7.out.cell 0
    have d1:=HD7.out.cell 1
    have d2:=HD7.out.cell 2
    have d3:=HD7.out.cell 3
    have d4:=HD7.out.cell 4
    have d5:=HD7.out.cell 5
    have d6:=HD7.out.cell 6
    have d7:=HD7.out.cell 7
    have f0:=HD7.out.frozen 0
    have f1:=HD7.out.frozen 1
    have f2:=HD7.out.frozen 2
    have f3:=HD7.out.frozen 3
    have f4:=HD7.out.frozen 4
    have f5:=HD7.out.frozen 5
    have f6:=HD7.out.frozen 6
    have f7:=HD7.out.frozen 7
    clear h1 h2 hmd hsq hpar hnm hn2 hnw ht
    go_wp2
    clear d0 d1 d2 d3 d4 d5 d6 d7 f0 f1 f2 f3 f4 f5 f6 f7
    obtain⟨w8,hw8⟩:∃ w8,w8=(((((((w7.setCell ⟨pd,0,none⟩ (.string t)).setCell ⟨pd,1,none⟩ (.slice Ar nw cr)).setCell ⟨pd,2,none⟩ (.slice As n2 cs)).setCell ⟨pd,3,none⟩ (.string nm)).setCell ⟨pd,4,none⟩ (.int .i64 0)).setCell ⟨pd,5,none⟩ (.int .i64 sq)).setCell ⟨pd,6,none⟩ (.int .i64 par)).setCell ⟨pd,7,none⟩ (.int .i64 md):=⟨_,rfl⟩
    rw [<- hw8]
    have hT:Turn w7 w8 pd:=by
     rw [hw8]
     exact (((((((Turn.set _ _ _ _).trans (Turn.set _ _ _ _)).trans (Turn.set _ _ _ _)).trans (Turn.set _ _ _ _)).trans (Turn.set _ _ _ _)).trans (Turn.set _ _ _ _)).trans (Turn.set _ _ _ _)).trans (Turn.set _ _ _ _)
    have hD8:Blk w8 pd 29 #[.string t,.slice Ar nw cr,.slice As n2 cs,.string nm,.int .i64 0,.int .i64 sq,.int .i64 par,.int .i64 md]:=by
     rw [hw8]
     exact blk_set (blk_set (blk_set (blk_set (blk_set (blk_set (blk_set (blk_set HD7.out 0 _) 1 _) 2 _) 3 _) 4 _) 5 _) 6 _) 7 _
    have HB8:=Aside0.mk (HB7.out.trans (hT.below HPW.out))
    have HC8:=Aside0.mk (Kd.C_below HC5.out ((HL6.out.trans (HL7.out.mono HL6.out.size)).trans (hT.below (show w5.heap.size<=pd by rw [HPD.out];exact Nat.le_refl _))))
    have HD8:=Aside0.mk hD8
    have HBD:=Aside0.mk (show Below w.heap.size w w8.drew from ⟨HB8.out.os,HB8.out.tape,HB8.out.output,HB8.out.size,HB8.out.block⟩)
    have HKD:=Aside0.mk (show Blk w8.drew pd 29 _ from HD8.out)
    have k31:=K31.out w8.drew A2 c2 (Kd.C_below HC8.out (show Below w8.heap.size w8 w8.drew from ⟨rfl,rfl,rfl,Nat.le_refl _,fun _ _=>rfl⟩))
    have e0:=HD8.out.cell 0
    have e0d:w8.drew.cell? ⟨pd,0,none⟩=some (.string t):=HKD.out.cell 0
    clear hw8 hT hD8
    go_region_with (go_at_call 31;with_reducible (refine k31.mono ?_);rintro e w9 ⟨rfl,hb9⟩;have HB9:=Aside0.mk (HBD.out.trans (hb9.mono HBD.out.size));have g0:=(Blk.below HKD.out hb9 HKD.out.lt).cell 0;clear hb9)
    all_goals
     clear e0 e0d
     go_wp2_with fail
     go_ret
     exact⟨rfl,HB9.out⟩
  ·have C30:=Aside0.mk (fun (W:World) (A':Option Addr) (c':Nat) (h:Kd.C F.k98 W A' sn segs)=>words30_no W A' c' sn v lv segs h HSN.out hv1 hl4 (fun s hs=>(HOK.out s hs).1) (by omega) hfit)
   clear hfit HOK HASC HBD
   go_enter Tryz.func7,Tryz.ntmps7
   go_wp2_with fail
   refine c16.mono ?_
   rintro e w1 ⟨rfl,hb1⟩
   have HB1:=Aside0.mk hb1
   clear hb1
   go_wp2_with fail
   refine (C17.out w1 HB1.out).mono ?_
   rintro e w2 ⟨v2,rfl,hR2,hb2⟩
   obtain⟨A2,c2,rfl,hc2,hC2⟩:=Kd.R_reads hR2
   rw [HSN.out] at hc2 hC2 ⊢
   have HB2:=Aside0.mk (HB1.out.trans (hb2.mono HB1.out.size))
   have HC2:=Aside0.mk hC2
   clear hR2 hb2 hC2
   go_wp2_with fail
   refine (C11.out w2).mono ?_
   rintro e w3 ⟨rfl,hd3⟩
   have HB3:=Aside0.mk (HB2.out.trans (hd3.below.mono HB2.out.size))
   have HC3:=Aside0.mk (Kd.C_below HC2.out hd3.below)
   clear hd3
   go_wp2_with fail
   refine (C18.out w3).mono ?_
   rintro e w4 ⟨rfl,hd4⟩
   have HB4:=Aside0.mk (HB3.out.trans (hd4.below.mono HB3.out.size))
   have HC4:=Aside0.mk (Kd.C_below HC3.out hd4.below)
   clear hd4
   go_wp2_with fail
   refine (C30.out w4 A2 c2 HC4.out).mono ?_
   rintro e w6 ⟨rfl,hb6⟩
   have HB6:=Aside0.mk (HB4.out.trans (hb6.mono HB4.out.size))
   clear hb6
   go_wp2_with fail
   go_ret
   exact⟨rfl,HB6.out⟩
end Go.Proofs.YtgccjgpdjkhpdaaGreat.B
