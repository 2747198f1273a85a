import Derived.Test.YtgccjgpdjkhpdaaGreatVErrors27
import Derived.Test.YtgccjgpdjkhpdaaGreatVErrors32
import Derived.Test.YtgccjgpdjkhpdaaGreatVErrors39
open Go.Proofs.YtgccjgpdjkhpdaaGreatW.PrintWords.Aside0 renaming mk→Mw
open Int renaming toNat_natCast→Mx
/-! Own texts of this claim, part 41. -/
namespace Go.Proofs.YtgccjgpdjkhpdaaGreat.B
open Go.RowKit Go.Proofs.YtgccjgpdjkhpdaaGreatW.PrintWords Go.Proofs.YtgccjgpdjkhpdaaGreatW.PrintLast Go.Proofs.YtgccjgpdjkhpdaaGreatW.PrintMore
set_option linter.unusedVariables false
set_option linter.unusedSimpArgs false
theorem KV (t:List Int)(hl:t.length<=100000):Ev (fun k=>F.dG.f k t t) true:=by
 have H:∀ (d i:Nat),i+d=t.length->Ev (fun k=>F.dG.l0 k t t (t.length:Int) (i:Int)) true:=by
  intro d
  induction d with
  | zero=>
   intro i hi;refine Ev.step (f:=fun _=>some true) (fun k=>?_) (Ev.now _);rw [F.dG.l0,if_neg (by omega)]
  | succ d ih=>
   intro i hi;refine Ev.step (fun k=>?_) (ih (i+1) (by omega));rw [F.dG.l0,if_pos (by omega),if_pos (by omega),if_pos (by omega),if_pos (by omega),if_pos rfl,wR i (by omega)]
 exact Ev.congr (fun k=>by rw [F.dG.f,if_pos rfl];rfl) (H t.length 0 (by omega))
theorem KX (w:World)(A0 A1:Option Addr)(c0 c1 k:Nat)(t:List Int)(hk:t.length=k)(hl:k<=100000)(h0:k<=c0)(h1:k<=c1)(r0:Kd.C (Kd.int .u8) w A0 k t)(r1:Kd.C (Kd.int .u8) w A1 k t) :
  Calls Tryz.prog 54 #[.slice A0 k c0,.slice A1 k c1] w fun e w'=>e=.returned (.bool true)/\Below w.heap.size w w':=by
 subst hk;obtain⟨j,hj⟩:=(KV t hl).rounds;refine (F.dG.calls j A0 c0 t A1 c1 t true w r0 h0 r1 h1 hj).mono ?_;rintro e w' ⟨rfl,hd⟩;exact⟨rfl,hd.below⟩
def cZ (l:List F.bl):List (List Int):=l.flatMap fun s=>if s.f0=4 then [s.f1] else []
theorem KY (l:List F.bl)(h:∀ s∈l,s.f0=1\/s.f0=2\/s.f0=4):la (l.map bI)=cZ l:=by
 unfold la cZ;rw [List.flatMap_map];apply qg;intro s hs;rcases h s hs with e | e | e<;>simp [bI,e]
theorem KZ (l:List F.bl):kY false (l.map bI)=fX l:=by
 unfold kY fX;rw [List.flatMap_map];rfl
theorem AC (l:List F.bl)(s:F.bl)(h:s.f0=4):cZ (l++[s])=cZ l++[s.f1]:=by simp [cZ,h]
theorem K0 (l:List F.bl)(s:F.bl)(h:s.f0≠4):cZ (l++[s])=cZ l:=by simp [cZ,h]
theorem AD (l k:List F.bl):cZ (l++k)=cZ l++cZ k:=by simp [cZ]
theorem La (l:List F.bl):(cZ l).length<=l.length:=by
 induction l with
 | nil=>simp [cZ]
 | cons s l ih=>
  have h0:cZ (s :: l)=cZ [s]++cZ l:=AD [s] l;rw [h0,List.length_append,List.length_cons];have h1:(cZ [s]).length<=1:=by unfold cZ;simp only [List.flatMap_cons,List.flatMap_nil,List.append_nil];split<;>simp
  omega
set_option maxHeartbeats 4000000 in
set_option maxRecDepth 8000 in
theorem Lb (w:World)(A:Option Addr)(c n lv base:Nat)(l:List F.bl)(bs:List Nat)(st:PS)(d:Value)(hd:fT w base lv bs st d)(hl:Kd.C F.dU w A n l)(hn:l.length=n)(hb:∀ s∈l,s.f1.length<=10000/\∀ x∈s.f1,0<=x/\x<=255)(hn2:n<=10000)
  (hlv:lv<4) (ht:st.out=fX l) (hs:st.segs=cZ l) (ha:jI l=true) :
  Calls Tryz.prog 21 #[d,.slice A n c,.int .i64 (lv:Int)] w fun e w'=>e=.returned (.bool true)/\Below w.heap.size w w':=by
 obtain⟨Ar,cr,As,cs,rfl,_,hsg⟩:=hd;obtain⟨As',cs',he,hs6,hsC⟩:=Kd.kB hsg;injection he with e1 e2 e3;subst e1 e3;clear e2;rw [ht,hs];rw [hs] at hs6 hsC hsg;obtain⟨M,hM⟩:∃ M,(cZ l).length=M:=⟨_,rfl⟩;rw [hM] at hs6 hsC ⊢;obtain⟨tx,htx⟩:∃ tx,strOfNums (fX l)=tx:=⟨_,rfl⟩;rw [htx];obtain⟨md,hmd⟩:∃ md:Int,(if st.fc then 3 else 1)=md:=⟨_,rfl⟩;rw [hmd];obtain⟨sq,hsq⟩:∃ sq,st.sq=sq:=⟨_,rfl⟩;obtain⟨par,hpar⟩:∃ par,st.par=par:=⟨_,rfl⟩;rw [hsq,hpar];obtain⟨m,hm⟩:∃ m,bs.length=m:=⟨_,rfl⟩;rw [hm];obtain⟨nm,hnm⟩:∃ nm,ip lv=nm:=⟨_,rfl⟩;rw [hnm];have K24:=Mw (fun (W:World) (hb2:Below w.heap.size w W)=>by
  have h:=JT W A c n l (Kd.bB hl hb2) hn hb hn2;rw [if_pos ha,htx] at h;exact h)
 have K53:=Mw (fun (W:World)=>by
  have h:=JR W lv hlv;rw [hnm] at h;exact h)
 have HC:=Mw hl;have HN:=Mw hn;have HS:=Mw hb;have HM:=Mw hM;have HSC:=Mw hsC;have HS6:=Mw hs6;have HSL:=Mw (show M<=n by rw [<- hM,<- hn];exact La l)
 clear hsg hs6 hsC hl hn hb hM hlv ht hs ha htx hmd hsq hpar hm hnm;obtain⟨w0,hw0⟩:∃ w0,w0=w.alloc (.cells #[.string tx,.slice Ar m cr,.slice As M cs,.string nm,.int .i64 0,.int .i64 sq,.int .i64 par,.int .i64 md] 29):=⟨_,rfl⟩;have HW:=Mw hw0;have HB0:=Mw (show Below w.heap.size w w0 by rw [hw0];exact ai (Below.refl _ _) _)
 have HD0:=Mw (show Blk w0 w.heap.size 29 #[.string tx,.slice Ar m cr,.slice As M cs,.string nm,.int .i64 0,.int .i64 sq,.int .i64 par,.int .i64 md] by rw [hw0];exact Blk.new _ _ _)
 have k24:=K24.out w0 HB0.out;clear hw0
 go_enter Tryz.func21,Tryz.ntmps21
 go_wp2_with fail
 rw [<- HW.out]
 go_wp2_with (go_at_call 24;with_reducible (refine k24.mono ?_);rintro e w1 ⟨rfl,hb1⟩;have HB1:=Mw (HB0.out.trans (hb1.mono HB0.out.size));have HD1:=Mw (HD0.out.below hb1 HD0.out.lt);clear hb1)
 have d0:=HD1.out.cell 0;have d3:=HD1.out.cell 3;clear k24;have k53:=K53.out w1.drew;have k53':=K53.out w1
 go_region_with (go_at_call 53;first | (with_reducible (refine k53.mono ?_);rintro e w2 ⟨rfl,rfl⟩) | (with_reducible (refine k53'.mono ?_);rintro e w2 ⟨rfl,rfl⟩))
 all_goals
  clear d0 d3 k53 k53';have HB2:=Mw (show Below w.heap.size w w1.drew from ⟨HB1.out.os,HB1.out.tape,HB1.out.output,HB1.out.size,HB1.out.block⟩);have HD2:=Mw (show Blk w1.drew w.heap.size 29 #[.string tx,.slice Ar m cr,.slice As M cs,.string nm,.int .i64 0,.int .i64 sq,.int .i64 par,.int .i64 md] from HD1.out)
  go_wp2_with fail
  go_loopw [9,30] (fun v9 v30 wr=>∃ (i a:Nat),v30=.int .i64 (i:Int)/\v9=.int .i64 (a:Int)/\i<=n/\a<=i/\Aside0 ((cZ (l.take i)).length=a)/\Aside0 (Below w.heap.size w wr)/\Aside0 (Blk wr w.heap.size 29 #[.string tx,.slice Ar m cr,.slice As M cs,.string nm,.int .i64 0,.int .i64 sq,.int .i64 par,.int .i64 md])) (fun _ v30 _=>(n-intOf v30).toNat)
  case atStart=>exact⟨0,0,rfl,rfl,Nat.zero_le _,Nat.zero_le _,⟨rfl⟩,HB2,HD2⟩
  case round=>
   clear HB1 HD1 HB2 HD2;obtain⟨i,a,rfl,rfl,hi,hai,HAT,HB,HD⟩:=hrel;by_cases hin:i<n;rotate_left
   ·have hie:i=n:=by omega
    subst hie;have haM:a=M:=by rw [<- HAT.out,<- HM.out,List.take_of_length_le (by rw [HN.out];exact Nat.le_refl _)]
    subst haM;have d2:=HD.out.cell 2
    go_wp2_with fail
    go_ret
    exact⟨by simp,HB.out⟩
   obtain⟨ad,A1,c1,e0,r0,r1,l1,g1⟩:=F.nl HC.out (i:Int) (by omega) (by omega);rw [Mx] at r0 r1;obtain⟨s,hss⟩:∃ s,F.cC l i=s:=⟨_,rfl⟩;rw [hss] at r0 r1 l1 g1;have hgi:l[i]? = some s:=by
    have hlt:i<l.length:=by rw [HN.out];exact hin
    rw [List.getElem?_eq_getElem hlt,<- hss];unfold F.cC;rw [Mx,List.getD_eq_getElem?_getD,List.getElem?_eq_getElem hlt];rfl
   have hso:=HS.out s (List.mem_of_getElem? hgi);have htk:l.take (i+1)=l.take i++[s]:=by rw [List.take_add_one,hgi];rfl
   obtain⟨mo,hmo⟩:∃ mo,s.f0=mo:=⟨_,rfl⟩;obtain⟨k,hk⟩:∃ k,s.f1.length=k:=⟨_,rfl⟩;rw [hmo] at r0;rw [hk] at r1 l1 g1;subst e0;replace r0:=jH HB.out r0;replace r1:=jH HB.out r1;have hk9:k<=10000:=by rw [<- hk];exact hso.1
   obtain⟨wa,hwa⟩:∃ wa,wa=wr.alloc (.cells #[.int .i64 mo,.slice A1 k c1] 98):=⟨_,rfl⟩;have HWA:=Mw hwa;have HBA:=Mw (show Below w.heap.size w wa by rw [hwa];exact HB.out.alloc HB.out.size _)
   have HSA:=Mw (show Blk wa wr.heap.size 98 #[.int .i64 mo,.slice A1 k c1] by rw [hwa];exact Blk.new _ _ _)
   have HDA:=Mw (show Blk wa w.heap.size 29 #[.string tx,.slice Ar m cr,.slice As M cs,.string nm,.int .i64 0,.int .i64 sq,.int .i64 par,.int .i64 md] by rw [hwa];exact Blk.below HD.out (ai (Below.refl wr.heap.size wr) _) HD.out.lt)
   have s0:=HSA.out.cell 0;have s1:=HSA.out.cell 1;have d2:=HDA.out.cell 2;by_cases hm4:mo=4;rotate_left
   ·have HNX:=Mw (show (cZ (l.take (i+1))).length=a by rw [htk,K0 _ _ (by rw [hmo];exact hm4),HAT.out])
    clear hss hgi hso htk hmo hk hwa g1 l1
    go_wp2_with fail
    rw [<- HWA.out];clear s0 s1 d2 r0 r1
    go_roundw
    case rel=>exact⟨i+1,a,by go_num,rfl,by omega,by omega,HNX,HBA,HDA⟩
    case measure=>simp [intOf]<;>omega
   subst hm4;have HNX:=Mw (show (cZ (l.take (i+1))).length=a+1 by rw [htk,AC _ _ hmo,List.length_append,HAT.out];rfl)
   have hpre:cZ l=cZ (l.take i)++s.f1 :: cZ (l.drop (i+1)):=by
    have h1:l=l.take (i+1)++l.drop (i+1):=(List.take_append_drop _ _).symm
    conv=>lhs;rw [h1,AD,htk,AC _ _ hmo]
    simp
   have haM:a<M:=by
    have h2:=congrArg List.length hpre;rw [HM.out,List.length_append,HAT.out,List.length_cons] at h2;omega
   obtain⟨a2,A2,c2,e2,r2,l2,g2⟩:=F.ym HSC.out (a:Int) (by omega) (by omega);have hrd:F.kN (cZ l) (a:Int)=s.f1:=by
    unfold F.kN;rw [Mx,hpre,List.getD_eq_getElem?_getD,List.getElem?_append_right (by rw [HAT.out];exact Nat.le_refl _),HAT.out,Nat.sub_self]
    rfl
   rw [hrd,hk] at r2 l2 g2;rw [Mx] at r2;subst e2;replace r2:=jH HBA.out r2;have HK54:=Mw (fun (W:World) (hb:Below w.heap.size w W)=>KX W A2 A1 c2 c1 k s.f1 hk (by omega) l2 l1 (Kd.bB g2 hb) (Kd.bB g1 hb));have HBD:=Mw (show Below w.heap.size w wa.drew from ⟨HBA.out.os,HBA.out.tape,HBA.out.output,HBA.out.size,HBA.out.block⟩);have k54:=HK54.out wa.drew HBD.out;have HDD:=Mw (show Blk wa.drew w.heap.size 29 _ from HDA.out);have hge:decide (M<=a)=false:=decide_eq_false (by omega);clear hss hgi hso htk hmo hk hwa g1 g2 hpre hrd l1 l2
   go_wp2_with fail
   rw [<- HWA.out]
   go_wp2_with fail
   go_region_with (go_at_call 54;with_reducible (refine k54.mono ?_);rintro e w5 ⟨rfl,hb5⟩;have HB5:=Mw (HBD.out.trans (hb5.mono HBD.out.size));have HD5:=Mw (HDD.out.below hb5 HDD.out.lt);clear hb5)
   all_goals
    clear s0 s1 d2 r0 r1 r2 k54
    go_wp2_with fail
    go_roundw
    case rel=>exact⟨i+1,a+1,by go_num,by go_num,by omega,by omega,HNX,HB5,HD5⟩
    case measure=>simp [intOf]<;>omega
end Go.Proofs.YtgccjgpdjkhpdaaGreat.B
