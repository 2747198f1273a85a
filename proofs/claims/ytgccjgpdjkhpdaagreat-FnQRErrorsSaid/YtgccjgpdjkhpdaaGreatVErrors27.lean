import Derived.Test.YtgccjgpdjkhpdaaGreatVErrors21
import Derived.Test.YtgccjgpdjkhpdaaGreatVErrors26
open Go.Proofs.YtgccjgpdjkhpdaaGreatW.PrintWords.Aside0 renaming mk→Mw
open Nat renaming le_trans→Mx,le_refl→My
open List renaming getD_eq_getElem?_getD→Mz,getElem?_eq_getElem→MA
/-! Own texts of this claim, part 27. -/
namespace Go.Proofs.YtgccjgpdjkhpdaaGreat.B
open Go.RowKit Go.Proofs.YtgccjgpdjkhpdaaGreatW.PrintWords Go.Proofs.YtgccjgpdjkhpdaaGreatW.PrintLast Go.Proofs.YtgccjgpdjkhpdaaGreatW.PrintMore
set_option linter.unusedVariables false
set_option linter.unusedSimpArgs false
def ju:Kd (List Int):=Kd.slice 5 (Kd.int .u8)
theorem im.reads {w:World}{base:Nat}{vs v:Value}{qs:List Nat}{segs:List (List Int)}(h:im w base vs v qs segs)(hl:∀ t∈segs,t.length<=1000000)(hn:segs.length<=1000000):∃ A c,vs=.slice A segs.length c/\segs.length<=c/\Kd.C ju w A segs.length segs:=by
 rcases Nat.eq_zero_or_pos segs.length with h0 | h0
 ·have hz:segs=[]:=List.eq_nil_of_length_eq_zero h0;subst hz;rcases h.own.2 with⟨rfl,_⟩ | ⟨g,cap,cur,rfl,_⟩
  ·exact⟨none,0,rfl,My _,rfl,by simp,fun hp=>absurd hp (Nat.lt_irrefl 0)⟩
  exact⟨_,cap,rfl,Nat.zero_le _,rfl,by simp,fun hp=>absurd hp (Nat.lt_irrefl 0)⟩
 obtain⟨g,cap,rfl,hg,hcap⟩:=h.own.form h0;refine⟨_,cap,rfl,?_,rfl,by omega,fun _=>⟨_,rfl,fun j p hj=>?_⟩⟩
 ·rcases h.own.2 with⟨h',_⟩ | ⟨g',cap',cur,h',_,_,h3,_⟩
  ·cases h'
  simp only [Value.slice.injEq,Option.some.injEq,Addr.mk.injEq,and_true,true_and] at h';omega
 obtain⟨hjl,hp⟩:=List.getElem?_eq_some_iff.1 hj;obtain⟨h1,h2,h3⟩:=h.blk j hjl;have hpd:segs.getD j []=p:=by rw [Mz,hj];rfl
 rw [hpd] at h2;have hpl:=hl p (by rw [<- hp];exact List.getElem_mem hjl)
 have hq:j<qs.length:=by rw [h.len];exact hjl
 refine⟨[.slice (some ⟨qs.getD j 0,0,none⟩) p.length p.length],rfl,⟨_,_,rfl,My _,Lq h2 (by omega)⟩,fun i u hu=>?_⟩;have hi:i=0:=by
  have:=(List.getElem?_eq_some_iff.1 hu).1;simpa using this
 subst hi;have hc:=h.own.cells (g:=g) rfl j u (by
  rw [<- hu];unfold jU;rw [List.getElem?_zipWith,MA hq,hj];simp [Mz,MA hq])
 show w.cell? ((⟨g,0,none⟩:Addr).add (j*1+0))=some u;rw [Nat.mul_one,Nat.add_zero];exact hc
theorem Rd.segLens {bs:List Nat}{v:Nat}{st:PS}{R:Option PS}(h:Rd bs v st R):(∀ t∈st.segs,t.length<=8*bs.length)->∀ s2,R=some s2->∀ t∈s2.segs,t.length<=8*bs.length:=by
 induction h with
 | done st h1 h2=>intro h s2 e;cases e;exact h
 | stop st h1 h2=>intro h s2 e;cases e;exact h
 | fnc st R h1 h2 h3 ih=>exact ih
 | part st R h1 h2 h3 ih=>exact ih
 | short=>intro h s2 e;cases e
 | num st ys p R h1 h2 h3 h4 ih=>exact ih
 | numBad=>intro h s2 e;cases e
 | al st ys p R h1 h2 h3 h4 ih=>exact ih
 | alBad=>intro h s2 e;cases e
 | byte st n R h1 h2 h3 h4 h5 ih=>
  intro h;refine ih ?_;intro t ht;rcases List.mem_append.1 ht with ht | ht
  ·exact h t ht
  rw [List.mem_singleton.1 ht];simp only [dV,List.length_map,List.length_range];omega
 | byteBad=>intro h s2 e;cases e
theorem Rd.fits {bs:List Nat}{v:Nat}{st:PS}{R:Option PS}(h:Rd bs v st R):st.Fits bs.length->∀ s2,R=some s2->s2.segs.length<=8*bs.length/\s2.out.length<=8*bs.length:=by
 induction h with
 | done st h1 h2=>intro F s2 e;cases e;obtain⟨f1,f2,f3⟩:=F;omega
 | stop st h1 h2=>intro F s2 e;cases e;obtain⟨f1,f2,f3⟩:=F;exact⟨by show st.segs.length<=_;omega,by show st.out.length<=_;omega⟩
 | fnc st R h1 h2 h3 ih=>intro F;exact ih ⟨h1,by have:=F.out;show st.out.length<=st.pos+4;omega,by have:=F.segs;show st.segs.length<=st.pos+4;omega⟩
 | part st R h1 h2 h3 ih=>intro F;exact ih ⟨h1,by have:=F.out;show st.out.length<=st.pos+20;omega,by have:=F.segs;show st.segs.length<=st.pos+20;omega⟩
 | short=>intro h s2 e;cases e
 | num st ys p R h1 h2 h3 h4 ih=>
  intro F;have hb:=yQ bs _ _ _ _ _ h3 h2;exact ih ⟨hb.2.1,by have:=F.out;show ys.length<=p;omega,by have:=F.segs;show st.segs.length<=p;omega⟩
 | numBad=>intro h s2 e;cases e
 | al st ys p R h1 h2 h3 h4 ih=>
  intro F;have hb:=yR bs _ _ _ _ _ h3 h2;have hl:=yS st.fc st.out ys hb.2.2.1;exact ih ⟨hb.2.1,by have:=F.out;show (kS st.fc st.out ys).length<=p;omega,by have:=F.segs;show st.segs.length<=p;omega⟩
 | alBad=>intro h s2 e;cases e
 | byte st n R h1 h2 h3 h4 h5 ih=>
  intro F;refine ih ⟨h4,?_,?_⟩
  ·show (st.out++dV _ _ _).length<=st.pos+4+aw 4 v+8*n;have:=F.out;rw [List.length_append];simp only [dV,List.length_map,List.length_range];omega
  show (st.segs++[_]).length<=st.pos+4+aw 4 v+8*n;have:=F.segs;rw [List.length_append,List.length_singleton];omega
 | byteBad=>intro h s2 e;cases e
def lb (w:World)(r g l:Nat)(bs:List Nat)(st:PS):Prop:=eQ w g bs/\∃ A c cg,Blk w r 194 #[.slice (some ⟨g,0,none⟩) bs.length cg,.int .i64 (8*(bs.length:Int)),.string (strOfNums st.out),.slice A st.segs.length c,.string (ip l),.int .i64 0,.int .i64 0,.nilIface,.int .i64 st.par,.int .i64 st.sq,.int .i64 (if st.fc then 3 else 1)]/\
 st.segs.length<=c/\Kd.C ju w A st.segs.length st.segs/\st.segs.length<=1000000/\∀ t∈st.segs,t.length<=1000000
theorem lb.below {w w':World}{r g l:Nat}{bs:List Nat}{st:PS}(h:lb w r g l bs st)(hb:Below w.heap.size w w'):lb w' r g l bs st:=by
 obtain⟨h1,A,c,cg,h2,h3,h4,h5,h6⟩:=h;exact⟨h1.below hb h1.lt,A,c,cg,h2.below hb h2.lt,h3,Kd.bB h4 hb,h5,h6⟩
theorem fv.res {w w':World}{g l n cg v:Nat}{bs:List Nat}{st:PS}{e:Ending}(h:fv w g n cg l (some st) e w')(hU:eQ w g bs)(hn:bs.length=n)(hl:bs.length<=100000)(hR:Rd bs v ⟨0,[],[],false,-1,-1⟩ (some st)) :
  ∃ r,e=.returned (.tuple #[.pointer (some ⟨r,0,none⟩),.nilIface])/\w.heap.size<=r/\lb w' r g l bs st/\Below w.heap.size w w':=by
 obtain⟨r,vs,vx,qs,rfl,h1,h2,h3,h4⟩:=h;have k1:=hR.segLens (fun t ht=>by cases ht) st rfl;have k2:=(hR.fits ⟨Nat.zero_le _,My _,My _⟩ st rfl).1;have k3:∀ t∈st.segs,t.length<=1000000:=fun t ht=>Mx (k1 t ht) (by omega)
 obtain⟨A,c,rfl,h5,h6⟩:=h3.reads k3 (by omega);subst hn;exact⟨r,rfl,h1,⟨hU.below h4 hU.lt,A,c,cg,h2,h5,h6,by omega,k3⟩,h4⟩
def eT (v l:Nat)(ws:List Nat):List Nat:=js (av v l) (aN v l) (aE v l) (aW v l) ws (av v l+aE v l)
theorem zf (v l:Nat)(ws:List Nat)(hv:1<=v/\v<=40)(hl:l<4):(eT v l ws).length<=10000:=by
 unfold eT;rw [lO];have L:=eD v l hv hl;have h1:=L.tot;have h2:=(jp v hv).2;have h3:fa (av v l) (aN v l) (av v l+aE v l)=aN v l*(av v l+aE v l)+aE v l:=by unfold fa;omega
 omega
theorem Gl (v l:Nat)(ws:List Nat)(hC:tw (av v l) (aN v l) (aE v l) (aW v l) ws):ab 8 (eT v l ws):=by
 intro x hx;unfold eT js at hx;obtain⟨j,hj,hxj⟩:=List.mem_flatMap.1 hx;exact hC.small j (List.mem_range.1 hj) x (List.mem_of_mem_take hxj)
theorem Gm (w:World)(r:Nat)(A:Option Addr)(n c:Nat)(h:w.cell? ⟨r,3,none⟩=some (.slice A n c)):Calls Tryz.prog 70 #[.pointer (some ⟨r,0,none⟩)] w fun e w'=>e=.returned (.slice A n c)/\w=w':=by
 go_enter Tryz.func70,Tryz.ntmps70
 go_wp2
 go_ret
 exact⟨rfl,rfl⟩
theorem Gn (w:World)(r:Nat)(t:ByteArray)(h:w.cell? ⟨r,2,none⟩=some (.string t)):Calls Tryz.prog 71 #[.pointer (some ⟨r,0,none⟩)] w fun e w'=>e=.returned (.string t)/\w=w':=by
 go_enter Tryz.func71,Tryz.ntmps71
 go_wp2
 go_ret
 exact⟨rfl,rfl⟩
theorem Gp (w:World)(r:Nat)(A:Option Addr)(n c:Nat)(h:w.cell? ⟨r,0,none⟩=some (.slice A n c)):Calls Tryz.prog 72 #[.pointer (some ⟨r,0,none⟩)] w fun e w'=>e=.returned (.slice A n c)/\w=w':=by
 go_enter Tryz.func72,Tryz.ntmps72
 go_wp2
 go_ret
 exact⟨rfl,rfl⟩
theorem Gq (w:World)(r:Nat)(t:ByteArray)(h:w.cell? ⟨r,4,none⟩=some (.string t)):Calls Tryz.prog 73 #[.pointer (some ⟨r,0,none⟩)] w fun e w'=>e=.returned (.string t)/\w=w':=by
 go_enter Tryz.func73,Tryz.ntmps73
 go_wp2
 go_ret
 exact⟨rfl,rfl⟩
theorem Gr (w:World)(r:Nat)(x:Int)(h:w.cell? ⟨r,5,none⟩=some (.int .i64 x)):Calls Tryz.prog 74 #[.pointer (some ⟨r,0,none⟩)] w fun e w'=>e=.returned (.int .i64 x)/\w=w':=by
 go_enter Tryz.func74,Tryz.ntmps74
 go_wp2
 go_ret
 exact⟨rfl,rfl⟩
theorem Gs (w:World)(r:Nat)(x:Int)(h:w.cell? ⟨r,9,none⟩=some (.int .i64 x)):Calls Tryz.prog 75 #[.pointer (some ⟨r,0,none⟩)] w fun e w'=>e=.returned (.int .i64 x)/\w=w':=by
 go_enter Tryz.func75,Tryz.ntmps75
 go_wp2
 go_ret
 exact⟨rfl,rfl⟩
theorem Gt (w:World)(r:Nat)(x:Int)(h:w.cell? ⟨r,8,none⟩=some (.int .i64 x)):Calls Tryz.prog 76 #[.pointer (some ⟨r,0,none⟩)] w fun e w'=>e=.returned (.int .i64 x)/\w=w':=by
 go_enter Tryz.func76,Tryz.ntmps76
 go_wp2
 go_ret
 exact⟨rfl,rfl⟩
theorem Gu (w:World)(r:Nat)(x:Int)(h:w.cell? ⟨r,10,none⟩=some (.int .i64 x)):Calls Tryz.prog 77 #[.pointer (some ⟨r,0,none⟩)] w fun e w'=>e=.returned (.int .i64 x)/\w=w':=by
 go_enter Tryz.func77,Tryz.ntmps77
 go_wp2
 go_ret
 exact⟨rfl,rfl⟩
def fT (w:World)(base l:Nat)(bs:List Nat)(st:PS)(v:Value):Prop:=∃ Ar cr As cs,v=.agg #[.string (strOfNums st.out),.slice Ar bs.length cr,.slice As st.segs.length cs,.string (ip l),.int .i64 0,.int .i64 st.sq,.int .i64 st.par,.int .i64 (if st.fc then 3 else 1)]/\
 Kd.R (Kd.int .u8) 5 w base (fun k=>base<=k) (.slice Ar bs.length cr) (ak bs)/\Kd.R ju 26 w base (fun k=>base<=k) (.slice As st.segs.length cs) st.segs
theorem fT.move {w w':World}{base l:Nat}{bs:List Nat}{st:PS}{v:Value}(h:fT w base l bs st v)(hm:∀ k,base<=k->k<w.heap.size->w'.heap[k]? = w.heap[k]?):fT w' base l bs st v:=by
 obtain⟨Ar,cr,As,cs,rfl,h1,h2⟩:=h;exact⟨Ar,cr,As,cs,rfl,Kd.mj h1 hm,Kd.mj h2 hm⟩
theorem fT.below {w w':World}{base l:Nat}{bs:List Nat}{st:PS}{v:Value}(h:fT w base l bs st v)(hb:Below w.heap.size w w'):fT w' base l bs st v:=h.move fun k _ hk=>hb.block k hk
theorem fT.lower {w:World}{base base' l:Nat}{bs:List Nat}{st:PS}{v:Value}(h:fT w base l bs st v)(hb:base'<=base):fT w base' l bs st v:=by
 obtain⟨Ar,cr,As,cs,rfl,h1,h2⟩:=h;exact⟨Ar,cr,As,cs,rfl,Kd.eK (Kd.fz h1 hb) (fun k hk=>Mx hb hk),Kd.eK (Kd.fz h2 hb) (fun k hk=>Mx hb hk)⟩
theorem Gv {w:World}{base n c:Nat}{A:Option Addr}{ys:List Int}(ho:w.ownsRow base 5 1 (.slice A n c) n (ac .u8 ys))(hn:ys.length=n):ju.M w base (fun k=>(Value.slice A n c).ownBlock=some k) ys [.slice A n c]:=by
 subst hn;exact⟨_,rfl,Kd.ov ho (fun k hk=>hk)⟩
theorem Gw {w:World}{base n c:Nat}{A:Option Addr}{ys:List Int}{v6:Value}{zs:List (List Int)}(ho:w.ownsRow base 5 1 (.slice A n c) n (ac .u8 ys))(hv:Kd.R ju 26 w base (fun k=>base<=k) v6 zs) :
  ∀ k,(Value.slice A n c).ownBlock=some k->base<=k/\some k≠v6.ownBlock:=by
 intro k hk;obtain⟨inner,h⟩:=Kd.ou hv;exact⟨cF ho k hk,oG ho h (by decide) k hk⟩
set_option maxHeartbeats 4000000 in
set_option maxRecDepth 100000 in
theorem Gx (w:World)(r gt l:Nat)(bs:List Nat)(st:PS)(h:lb w r gt l bs st)(hl:bs.length<=100000) :
  Calls Tryz.prog 35 #[.pointer (some ⟨r,0,none⟩),.nilIface] w fun e w'=>∃ v,e=.returned (.tuple #[v,.bool true])/\fT w' w.heap.size l bs st v/\Below w.heap.size w w':=by
 obtain⟨w0,hw0⟩:∃ w0,w0=w.alloc (.cells #[.string ⟨#[]⟩,.slice none 0 0,.slice none 0 0,.string ⟨#[]⟩,.int .i64 0,.int .i64 0,.int .i64 0,.int .i64 0] 29):=⟨_,rfl⟩;have HB0:=Mw (show Below w.heap.size w w0 by rw [hw0];exact ai (Below.refl _ _) _)
 have HD0:=Mw (show Blk w0 w.heap.size 29 #[.string ⟨#[]⟩,.slice none 0 0,.slice none 0 0,.string ⟨#[]⟩,.int .i64 0,.int .i64 0,.int .i64 0,.int .i64 0] by rw [hw0];exact Blk.new _ _ _)
 have HZ0:=Mw (show w0.heap.size=w.heap.size+1 by rw [hw0];simp)
 have HW:=Mw hw0;have hres:=h.below (HB0.out);obtain⟨hU,A,c,cg,hblk,hc,hC,hsn,hst⟩:=hres;obtain⟨segs,hsegs⟩:∃ segs,st.segs=segs:=⟨_,rfl⟩;obtain⟨t,ht⟩:∃ t,strOfNums st.out=t:=⟨_,rfl⟩;obtain⟨md,hmd⟩:∃ md:Int,(if st.fc then 3 else 1)=md:=⟨_,rfl⟩;unfold fT;rw [hsegs,ht,hmd] at hblk ⊢;rw [hsegs] at hc hC hsn hst;obtain⟨sq,hsq⟩:∃ sq,st.sq=sq:=⟨_,rfl⟩;obtain⟨par,hpar⟩:∃ par,st.par=par:=⟨_,rfl⟩;rw [hsq,hpar] at hblk ⊢;obtain⟨nm,hnm⟩:∃ nm,ip l=nm:=⟨_,rfl⟩;rw [hnm] at hblk ⊢;obtain⟨n,hn⟩:∃ n,segs.length=n:=⟨_,rfl⟩;obtain⟨m,hm⟩:∃ m,bs.length=m:=⟨_,rfl⟩;rw [hn] at hblk hC hc hsn ⊢;rw [hm] at hblk hl ⊢;have HR:=Mw hblk;have HU:=Mw hU;have HC:=Mw hC;have HST:=Mw hst;have HN:=Mw hn;have HM:=Mw hm;have HCC:=Mw hc;obtain⟨B,hBq⟩:∃ B,B=w0.heap.size:=⟨_,rfl⟩;have HBQ:=Mw hBq;have h70:=Gm w0 r A n c (hblk.cell 3);clear h hw0 hblk hU hC hst hn hm hc hsegs ht hmd hsq hpar hnm hBq
 go_enter Tryz.func35,Tryz.ntmps35
 go_wp2_with fail
 rw [<- HW.out]
 go_wp2_with (go_at_call 70;refine h70.mono ?_;rintro e w' ⟨rfl,rfl⟩)
 clear h70;have hRn:Kd.R ju 26 w0 B (fun k=>B<=k) (.slice none 0 0) (segs.take 0):=by rw [List.take_zero];exact Kd.oq ju 26 w0 B _
 have HV:=Mw hRn;have HBW:=Mw (show Below B w0 w0 from Below.refl _ _);have HBS:=Mw (show B<=w0.heap.size by rw [HBQ.out];exact My _)
 clear hRn
 go_loopw [6,15] (fun v6 v15 wr=>∃ i:Nat,v15=.int .i64 (i:Int)/\i<=n/\Aside0 (Kd.R ju 26 wr B (fun k=>B<=k) v6 (segs.take i))/\Aside0 (Below B w0 wr)/\Aside0 (B<=wr.heap.size)) (fun _ v15 _=>(n-intOf v15).toNat)
 case atStart=>exact⟨0,rfl,Nat.zero_le _,HV,HBW,HBS⟩
 case round=>
  clear HV HBW HBS;obtain⟨i,rfl,hi,HV,HBW,HBS⟩:=hrel;by_cases hin:i<n
  ·have hCr:Kd.C ju wr A n segs:=Kd.bB HC.out (by have:=HBW.out;rw [HBQ.out] at this;exact this)
   obtain⟨ad,A0,c0,e0,r0,l0,g0⟩:=F.ym hCr (i:Int) (by omega) (by omega);rw [Int.toNat_natCast] at r0;obtain⟨ys,hys⟩:∃ ys,F.kN segs i=ys:=⟨_,rfl⟩;rw [hys] at r0 l0 g0;have hyl:ys.length<=1000000:=by
    rw [<- hys];unfold F.kN;rw [Int.toNat_natCast,Mz,MA (by rw [HN.out];exact hin)]
    exact HST.out _ (List.getElem_mem _)
   have HTK:=Mw (show segs.take (i+1)=segs.take i++[ys] by
    rw [List.take_succ_eq_append_getElem (by rw [HN.out];exact hin),<- hys]
    unfold F.kN;rw [Int.toNat_natCast,Mz,MA (by rw [HN.out];exact hin)]
    rfl)
   have HTL:=Mw (show (segs.take i).length<=1000000 by rw [List.length_take];omega)
   have HG:=Mw (show cA wr .u8 A0 ys.length ys from Kd.mq g0);have HYL:=Mw hyl;subst e0;obtain⟨ny,hny⟩:∃ ny,ys.length=ny:=⟨_,rfl⟩;have HNY:=Mw hny;rw [hny] at r0 l0;clear hCr g0 hys hyl hny
   go_wp2_with (first | ((with_reducible refine bD (b:=.append) (xs:=#[.const (.slice none 0 0),.tmp 20]) rfl ?_);at_builtin;refine ol (w0:=w0) B rfl (.const (.slice none 0 0)) (.tmp 20) 26 5 .u8 1 rfl Tryz.underlying26 F.cS (by decide) (.slice none 0 0) [] ys A0 ny c0 rfl rfl (rz _ _) ?aR HBW.out HBS.out ?aL ?_;(case aR=>(have h1:=HG.out;rw [HNY.out] at h1;exact h1));(case aL=>(have:=HYL.out;have:=HNY.out;simp;omega));intro v1 w1 ho hb hg hat;rw [List.nil_append,HNY.out] at ho;obtain⟨A1,c1,hv1⟩:=eh ho;subst hv1;have HO1:=Mw ho;have HB1:=Mw hb;have HG1:=Mw hg;have HA1:=Mw hat;clear ho hb hg hat) | ((with_reducible refine bD (b:=.append) (xs:=#[.tmp 19,.tmp 22]) rfl ?_);at_builtin;refine Kd.ml ju (w0:=w0) B rfl (.tmp 19) (.tmp 22) 27 26 (.slice none 0 0) 24 rfl Tryz.underlying27 ru rfl (by decide) (by decide) u6 (segs.take i) ys [.slice A1 ny c1] (fun k=>B<=k) (fun k=>(Value.slice A1 ny c1).ownBlock=some k) rfl rfl (Gv HO1.out HNY.out) (Gw HO1.out (Kd.u9 HV.out HG1.out (fun k _ h=>by cases h))) (fun k hk=>Mx (Mx HBS.out HG1.out.size) hk) (Kd.u9 HV.out HG1.out (fun k _ h=>by cases h)) HB1.out (Mx HBS.out HG1.out.size) ?bL ?_;(case bL=>(have:=HTL.out;omega));intro v2 w2 hr2 hb2 hg2 hat2;have HR2:=Mw hr2;have HB2:=Mw hb2;have HZ2:=Mw (Mx (Mx HBS.out HG1.out.size) hg2.size);clear hr2 hb2 hg2 hat2))
   go_roundw
   case rel=>exact⟨i+1,by go_num,by omega,⟨by rw [HTK.out];exact HR2.out⟩,HB2,HZ2⟩
   case measure=>simp [intOf];omega
  have:n=i:=by omega
  subst this;have hseg:=HV.out;rw [<- HN.out,List.take_length] at hseg;obtain⟨As,cs,rfl,h6,hsC⟩:=Kd.kB hseg;have HSR:=Mw hseg;have HRC:=Mw (fun (W:World) (hb:Below B w0 W)=>HR.out.below hb (by rw [HBQ.out];exact HR.out.lt))
  have HRB:=Mw (show cA wr .u8 (some ⟨gt,0,none⟩) m (ak bs) by
   have h2:=(HU.out.below HBW.out (by rw [HBQ.out];exact HU.out.lt)).reads (by rw [HM.out];omega)
   rw [HM.out] at h2;exact h2)
  have HSC:=Mw hsC;have HS6:=Mw h6;rw [HN.out] at HSC HS6;obtain⟨N,hNN⟩:∃ N,N=n:=⟨_,rfl⟩;clear hseg h6 hsC
  try rw [HN.out]
  go_wp2_with (first | (go_at_call 71;refine (Gn _ r t ((HRC.out _ HBW.out).cell 2)).mono ?_;rintro e w' ⟨rfl,rfl⟩) | (go_at_call 72;refine (Gp _ r _ m cg ((HRC.out _ HBW.out).cell 0)).mono ?_;rintro e w' ⟨rfl,rfl⟩) | (go_at_call 73;refine (Gq _ r nm ((HRC.out _ HBW.out).cell 4)).mono ?_;rintro e w' ⟨rfl,rfl⟩) | (go_at_call 74;refine (Gr _ r 0 ((HRC.out _ HBW.out).cell 5)).mono ?_;rintro e w' ⟨rfl,rfl⟩) | (go_at_call 75;refine (Gs _ r sq ((HRC.out _ HBW.out).cell 9)).mono ?_;rintro e w' ⟨rfl,rfl⟩) | (go_at_call 76;refine (Gt _ r par ((HRC.out _ HBW.out).cell 8)).mono ?_;rintro e w' ⟨rfl,rfl⟩) | (go_at_call 77;refine (Gu _ r md ((HRC.out _ HBW.out).cell 10)).mono ?_;rintro e w' ⟨rfl,rfl⟩) | ((with_reducible refine bD (b:=.append) (xs:=#[.const (.slice none 0 0),.tmp 28]) rfl ?_);at_builtin;refine ol (w0:=w0) B rfl (.const (.slice none 0 0)) (.tmp 28) 26 5 .u8 1 rfl Tryz.underlying26 F.cS (by decide) (.slice none 0 0) [] (ak bs) (some ⟨gt,0,none⟩) m cg rfl rfl (rz _ _) HRB.out HBW.out HBS.out ?aL ?_;(case aL=>(simp;omega));intro v1 w1 ho hb hg hat;rw [List.nil_append,ey,HM.out] at ho;obtain⟨A1,c1,hv1⟩:=eh ho;subst hv1;have HO1:=Mw ho;have HG1:=Mw hg;clear HBW;have HBW:=Mw hb;have HD3:=Mw (HD0.out.below hb (by rw [HBQ.out];exact HD0.out.lt));have d0:=HD3.out.cell 0;have d1:=HD3.out.cell 1;have d2:=HD3.out.cell 2;have d3:=HD3.out.cell 3;have d4:=HD3.out.cell 4;have d5:=HD3.out.cell 5;have d6:=HD3.out.cell 6;have d7:=HD3.out.cell 7;have f0:=HD3.out.frozen 0;have f1:=HD3.out.frozen 1;have f2:=HD3.out.frozen 2;have f3:=HD3.out.frozen 3;have f4:=HD3.out.frozen 4;have f5:=HD3.out.frozen 5;have f6:=HD3.out.frozen 6;have f7:=HD3.out.frozen 7;clear ho hb hg hat))
  clear d0 d1 d2 d3 d4 d5 d6 d7 f0 f1 f2 f3 f4 f5 f6 f7;obtain⟨w4,hw4⟩:∃ w4,w4=(((((((w1.setCell ⟨w.heap.size,0,none⟩ (.string t)).setCell ⟨w.heap.size,1,none⟩ (.slice A1 m c1)).setCell ⟨w.heap.size,2,none⟩ (.slice As n cs)).setCell ⟨w.heap.size,3,none⟩ (.string nm)).setCell ⟨w.heap.size,4,none⟩ (.int .i64 0)).setCell ⟨w.heap.size,5,none⟩ (.int .i64 sq)).setCell ⟨w.heap.size,6,none⟩ (.int .i64 par)).setCell ⟨w.heap.size,7,none⟩ (.int .i64 md):=⟨_,rfl⟩;rw [<- hw4];have hT:af w1 w4 w.heap.size:=by
   rw [hw4];exact (((((((af.set _ _ _ _).trans (af.set _ _ _ _)).trans (af.set _ _ _ _)).trans (af.set _ _ _ _)).trans (af.set _ _ _ _)).trans (af.set _ _ _ _)).trans (af.set _ _ _ _)).trans (af.set _ _ _ _)
  have hD4:Blk w4 w.heap.size 29 #[.string t,.slice A1 m c1,.slice As n cs,.string nm,.int .i64 0,.int .i64 sq,.int .i64 par,.int .i64 md]:=by
   rw [hw4];exact bK (bK (bK (bK (bK (bK (bK (bK HD3.out 0 _) 1 _) 2 _) 3 _) 4 _) 5 _) 6 _) 7 _
  have c0:w4.cell? ⟨w.heap.size,0,none⟩=_:=hD4.cell 0;have c1':w4.cell? ⟨w.heap.size,1,none⟩=_:=hD4.cell 1;have c2:w4.cell? ⟨w.heap.size,2,none⟩=_:=hD4.cell 2;have c3:w4.cell? ⟨w.heap.size,3,none⟩=_:=hD4.cell 3;have c4:w4.cell? ⟨w.heap.size,4,none⟩=_:=hD4.cell 4;have c5:w4.cell? ⟨w.heap.size,5,none⟩=_:=hD4.cell 5;have c6:w4.cell? ⟨w.heap.size,6,none⟩=_:=hD4.cell 6;have c7:w4.cell? ⟨w.heap.size,7,none⟩=_:=hD4.cell 7;refine bodyPost_ret (v:=.tuple #[.agg #[.string t,.slice A1 m c1,.slice As n cs,.string nm,.int .i64 0,.int .i64 sq,.int .i64 par,.int .i64 md],.bool true]) (by simp [results,Tryz.results35,go_sem,c0,c1',c2,c3,c4,c5,c6,c7]) rfl ⟨_,rfl,⟨_,_,_,_,rfl,?_,?_⟩,?_⟩
  ·have hown:w4.ownsRow B 5 1 (.slice A1 m c1) m (ac .u8 (ak bs)):=ei HO1.out fun k hk=>hT.block k (by have:=cF HO1.out k hk;have:=HBQ.out;have:=HZ0.out;omega)
   have hml:(ak bs).length=m:=by rw [ey,HM.out]
   have hr:Kd.R (Kd.int .u8) 5 w4 B (fun k=>w.heap.size<=k) (.slice A1 m c1) (ak bs):=Kd.ov (by rw [hml];exact hown) (fun k hk=>by have:=cF hown k hk;have:=HBQ.out;have:=HZ0.out;omega)
   exact Kd.fz hr (by have:=HBQ.out;have:=HZ0.out;omega)
  rotate_left
  ·exact (HB0.out.trans (HBW.out.mono (by have:=HZ0.out;have:=HBQ.out;omega))).trans (hT.below (My _))
  have hr:Kd.R ju 26 w4 B (fun k=>B<=k) (.slice As segs.length cs) segs:=Kd.mj HSR.out fun k hk hlt=>(hT.block k (by have:=HBQ.out;have:=HZ0.out;omega)).trans (HG1.out.block k hlt (by intro h;cases h))
  have hq:=Kd.eK (Kd.fz hr (show w.heap.size<=B by have:=HBQ.out;have:=HZ0.out;omega)) (ok':=fun k=>w.heap.size<=k) (fun k hk=>by have:=HBQ.out;have:=HZ0.out;omega)
  rw [HN.out] at hq;exact hq
structure nI (v dn:Nat)(f:Nat->Nat->Bool)(wc:List Nat)(st:PS):Prop where
 hv:1<=v/\v<=40
 ver:sr f v
 dn32:dn<32
 fmt:iR (aJ (cW f) 15) (aJ (ew f (17+4*v)) 15) bp (2147483647,0)=some dn
 near:yD (av v (dn/8)) (aN v (dn/8)) (aE v (dn/8)) (aW v (dn/8)) (kH v (dn%8) f) wc
 says:Rd (eT v (dn/8) wc) v ⟨0,[],[],false,-1,-1⟩ (some st)
theorem Gy (w:World)(dd rs gf p g b v dn:Nat)(f:Nat->Nat->Bool)(hint:Value)(st:PS)(wc:List Nat)(S:nI v dn f wc st)(hD:fP w dd rs gf)(hP:ig w p g v (.pointer none))(G:aQ w g b (17+4*v) (17+4*v) f)(hgp:g≠p)(hbp:b≠p) :
  Calls Tryz.prog 149 #[.pointer (some ⟨dd,0,none⟩),.pointer (some ⟨p,0,none⟩),hint] w fun e w'=>∃ r gt,e=.returned (.tuple #[.pointer (some ⟨r,0,none⟩),.nilIface])/\w.heap.size<=r/\lb w' r gt (dn/8) (eT v (dn/8) wc) st/\bk w w' p b:=by
 have hl4:dn/8<4:=by have:=S.dn32;omega
 have hsl:=zf v (dn/8) wc S.hv hl4;refine Fz w dd rs gf p g b v dn (dn/8) f hint _ wc _ hD hP S.dn32 S.fmt G S.hv S.ver hgp hbp rfl hl4 rfl S.near ?_;intro W gt pv hU hV hu hgt;refine (Gk W gt _ _ pv (dn/8) v (eT v (dn/8) wc) hint (some st) (aA.r hU) ((aA.cap hU).trans (by rw [lO])) (by unfold eT;rw [lO]) hV S.hv hl4 (Gl _ _ _ S.near.clean) (by omega) S.says).mono ?_
 intro e w' hd;obtain⟨r,rfl,h1,h2,h3⟩:=fv.res hd (aA.r hU) (by rw [lO]) (show (eT v (dn/8) wc).length<=100000 by omega) S.says;exact⟨_,_,rfl,r,gt,rfl,Mx hu.size h1,h2,hu.trans_below h3⟩
theorem Gz (w:World)(dd rs gf g b v dn:Nat)(f:Nat->Nat->Bool)(hint:Value)(st:PS)(wc:List Nat)(S:nI v dn f wc st)(hD:fP w dd rs gf)(G:aQ w g b (17+4*v) (17+4*v) f) :
  Calls Tryz.prog 126 #[.pointer (some ⟨dd,0,none⟩),.pointer (some ⟨g,0,none⟩),hint] w fun e w'=>∃ r gt,e=.returned (.tuple #[.pointer (some ⟨r,0,none⟩),.nilIface])/\w.heap.size<=r/\lb w' r gt (dn/8) (eT v (dn/8) wc) st/\aC w w' b:=by
 have hv:=S.hv;have kp:=LH w g b (17+4*v) (17+4*v) f G (by omega) (by omega) (by omega);have hgl:=G.lt;have K:=Mw (fun hint=>Gy (w.alloc (.cells (AK g) 144)) dd rs gf w.heap.size g b v dn f hint st wc S (hD.below (ai (Below.refl _ _) _) (My _)) ⟨_,Blk.new _ _ _,.inl rfl⟩ (G.below (ai (Below.refl _ _) _) hgl.1 hgl.2) (by omega) (by omega));obtain⟨D,hDD⟩:∃ D,eT v (dn/8) wc=D:=⟨_,rfl⟩;rw [hDD] at K ⊢;obtain⟨l,hl⟩:∃ l,dn/8=l:=⟨_,rfl⟩;rw [hl] at K ⊢;clear S hD G hDD hl hv
 go_enter Tryz.func126,Tryz.ntmps126
 go_wp2_with (first | (go_at_call 82;refine kp.mono ?_;rintro e w1 ⟨rfl,rfl⟩) | (go_at_call 149;refine (K.out _).mono ?_;rintro e w2 ⟨r,gt,rfl,h1,h2,h3⟩;have H2:=Mw h2;have H3:=Mw h3;clear h2 h3))
 go_ret2
 have h3:=H3.out;refine⟨r,gt,rfl,by simp at h1;omega,H2.out,⟨h3.os,h3.tape,h3.output,by have:=h3.size;simp at this;omega,fun k hk hkb=>?_⟩⟩
 rw [h3.block k (by simp;omega) (by omega) hkb]
 exact Below.heap_alloc w _ k hk
theorem GA (w:World)(dd rs gf v dn:Nat)(A:Option Addr)(c:Nat)(rows:List (List Bool))(hint:Value)(st:PS)(wc:List Nat)(S:nI v dn (fY rows) wc st)(hD:fP w dd rs gf)(hr:lx w A rows)(hc:rows.length<=c)(hs:sp rows (17+4*v)) :
  Calls Tryz.prog 80 #[.pointer (some ⟨dd,0,none⟩),.slice A (17+4*v) c,hint] w fun e w'=>∃ r gt,e=.returned (.tuple #[.pointer (some ⟨r,0,none⟩),.nilIface])/\w.heap.size<=r/\lb w' r gt (dn/8) (eT v (dn/8) wc) st/\Below w.heap.size w w':=by
 have hv:=S.hv;obtain⟨n,hn⟩:∃ n,17+4*v=n:=⟨_,rfl⟩;have kp:=LG w A c rows n n hr hc (by rw [hs.len,hn]) (by omega) (by omega) (by rw [hs.head,hn]) (by omega) (by omega) (by rw [<- hn];exact hs.row)
 have HD:=Mw hD;have K:=Mw (fun (W:World) (g b:Nat) (h:fP W dd rs gf) (G:aQ W g b n n (fY rows))=>Gz W dd rs gf g b v dn (fY rows) hint st wc S h (by rw [hn];exact G))
 rw [hn];obtain⟨D,hDD⟩:∃ D,eT v (dn/8) wc=D:=⟨_,rfl⟩;rw [hDD] at K ⊢;obtain⟨l,hl⟩:∃ l,dn/8=l:=⟨_,rfl⟩;rw [hl] at K ⊢;clear S hD hr hc hs hv hn hDD hl
 go_enter Tryz.func80,Tryz.ntmps80
 go_wp2_with (first | (go_at_call 125;refine kp.mono ?_;rintro e w1 ⟨rfl,hG,hb1⟩;have HG:=Mw hG;have HB1:=Mw hb1;have HD1:=Mw (HD.out.below hb1 (My _));clear hG hb1) | (go_at_call 126;refine (K.out _ _ _ HD1.out HG.out).mono ?_;rintro e w2 ⟨r,gt,rfl,h1,h2,h3⟩;have H2:=Mw h2;have H3:=Mw h3;clear h2 h3))
 go_ret2
 exact⟨r,gt,rfl,Mx HB1.out.size h1,H2.out,H3.out.below HB1.out (My _) HB1.out.size⟩
theorem GB (w:World)(dd rs gf v dn:Nat)(A:Option Addr)(c:Nat)(rows:List (List Bool))(st:PS)(wc:List Nat)(S:nI v dn (fY rows) wc st)(hD:fP w dd rs gf)(hr:lx w A rows)(hc:rows.length<=c)(hs:sp rows (17+4*v)) :
  Calls Tryz.prog 37 #[.pointer (some ⟨dd,0,none⟩),.slice A (17+4*v) c] w fun e w'=>∃ r gt,e=.returned (.tuple #[.pointer (some ⟨r,0,none⟩),.nilIface])/\w.heap.size<=r/\lb w' r gt (dn/8) (eT v (dn/8) wc) st/\Below w.heap.size w w':=by
 have k:=GA w dd rs gf v dn A c rows (.map none) st wc S hD hr hc hs;obtain⟨D,hDD⟩:∃ D,eT v (dn/8) wc=D:=⟨_,rfl⟩;rw [hDD] at k ⊢;obtain⟨l,hl⟩:∃ l,dn/8=l:=⟨_,rfl⟩;rw [hl] at k ⊢;clear S hD hr hc hs hDD hl
 go_enter Tryz.func37,Tryz.ntmps37
 go_wp2_with (go_at_call 80;refine k.mono ?_;rintro e w2 ⟨r,gt,rfl,h1,h2,h3⟩;have H2:=Mw h2;have H3:=Mw h3;clear h2 h3)
 go_ret2
 exact⟨r,gt,rfl,h1,H2.out,H3.out⟩
set_option maxHeartbeats 2000000 in
set_option maxRecDepth 100000 in
theorem GC (w:World)(v dn:Nat)(A:Option Addr)(c:Nat)(rows:List (List Bool))(st:PS)(wc:List Nat)(S:nI v dn (fY rows) wc st)(hr:lx w A rows)(hc:rows.length<=c)(hs:sp rows (17+4*v)) :
  Calls Tryz.prog 12 #[.slice A (17+4*v) c] w fun e w'=>∃ x,e=.returned (.tuple #[x,.bool true])/\fT w' w.heap.size (dn/8) (eT v (dn/8) wc) st x/\Below w.heap.size w w':=by
 have hl4:dn/8<4:=by have:=S.dn32;omega
 have hDl:(eT v (dn/8) wc).length<=100000:=Mx (zf v (dn/8) _ S.hv hl4) (by decide);obtain⟨w0,hw0⟩:∃ w0,w0=w.alloc (.cells #[.string ⟨#[]⟩,.slice none 0 0,.slice none 0 0,.string ⟨#[]⟩,.int .i64 0,.int .i64 0,.int .i64 0,.int .i64 0] 29):=⟨_,rfl⟩;have HB0:=Mw (show Below w.heap.size w w0 by rw [hw0];exact ai (Below.refl _ _) _)
 have HD0:=Mw (show Blk w0 w.heap.size 29 #[.string ⟨#[]⟩,.slice none 0 0,.slice none 0 0,.string ⟨#[]⟩,.int .i64 0,.int .i64 0,.int .i64 0,.int .i64 0] by rw [hw0];exact Blk.new _ _ _)
 have HZ0:=Mw (show w0.heap.size=w.heap.size+1 by rw [hw0];simp)
 have HW:=Mw hw0;have HR0:=Mw (Kd.bB hr HB0.out);have K:=Mw (fun (W:World) (dd rs gf:Nat) (h:fP W dd rs gf) (hb:lx W A rows)=>GB W dd rs gf v dn A c rows st wc S h hb hc hs);obtain⟨D,hDD⟩:∃ D,eT v (dn/8) wc=D:=⟨_,rfl⟩;rw [hDD] at K hDl ⊢;obtain⟨l,hl⟩:∃ l,dn/8=l:=⟨_,rfl⟩;rw [hl] at K ⊢;obtain⟨n,hn⟩:∃ n,17+4*v=n:=⟨_,rfl⟩;rw [hn] at K ⊢;have HDL:=Mw hDl;clear S hr hc hs hDD hl hn hl4 hw0 hDl
 go_enter Tryz.func12,Tryz.ntmps12
 go_wp2_with fail
 rw [<- HW.out];refine (Mg w0).mono ?_;rintro e w1 ⟨d,rs,gf,rfl,_,_,_,hD1,hb1⟩;have HB1:=Mw hb1;have HD1:=Mw hD1;clear hb1 hD1
 go_wp2_with fail
 refine (K.out w1 d rs gf HD1.out (Kd.bB HR0.out HB1.out)).mono ?_;rintro e w2 ⟨r,gt,rfl,hrl,hR,hb2⟩;have HB2:=Mw (HB1.out.trans (hb2.mono HB1.out.size));have HR2:=Mw hR;clear hb2 hR hrl
 go_wp2_with fail
 refine (Gx w2 r gt l D st HR2.out HDL.out).mono ?_;rintro e w3 ⟨x,rfl,⟨Ar,cr,As,cs,rfl,h1,h2⟩,hb3⟩;have HB3:=Mw (HB2.out.trans (hb3.mono HB2.out.size));have HD3:=Mw (HD0.out.below HB3.out HD0.out.lt);have HBB:=Mw (show w.heap.size<w2.heap.size by have:=HZ0.out;have:=HB2.out.size;omega)
 have HDI:=Mw (show fT w3 w2.heap.size l D st _ from ⟨Ar,cr,As,cs,rfl,h1,h2⟩);obtain⟨t,ht⟩:∃ t,strOfNums st.out=t:=⟨_,rfl⟩;obtain⟨md,hmd⟩:∃ md:Int,(if st.fc then 3 else 1)=md:=⟨_,rfl⟩;obtain⟨sq,hsq⟩:∃ sq,st.sq=sq:=⟨_,rfl⟩;obtain⟨par,hpar⟩:∃ par,st.par=par:=⟨_,rfl⟩;obtain⟨nm,hnm⟩:∃ nm,ip l=nm:=⟨_,rfl⟩;obtain⟨n2,hn2⟩:∃ n2,st.segs.length=n2:=⟨_,rfl⟩;obtain⟨m,hm⟩:∃ m,D.length=m:=⟨_,rfl⟩;rw [ht,hmd,hsq,hpar,hnm,hn2,hm];have HT:=Mw ht;have HMD:=Mw hmd;have HSQ:=Mw hsq;have HPAR:=Mw hpar;have HNM:=Mw hnm;have HN2:=Mw hn2;have HM:=Mw hm;have d0:=HD3.out.cell 0;have d1:=HD3.out.cell 1;have d2:=HD3.out.cell 2;have d3:=HD3.out.cell 3;have d4:=HD3.out.cell 4;have d5:=HD3.out.cell 5;have d6:=HD3.out.cell 6;have d7:=HD3.out.cell 7;have f0:=HD3.out.frozen 0;have f1:=HD3.out.frozen 1;have f2:=HD3.out.frozen 2;have f3:=HD3.out.frozen 3;have f4:=HD3.out.frozen 4;have f5:=HD3.out.frozen 5;have f6:=HD3.out.frozen 6;have f7:=HD3.out.frozen 7;clear hb3 h1 h2 ht hmd hsq hpar hnm hn2 hm
 go_wp2
 clear d0 d1 d2 d3 d4 d5 d6 d7 f0 f1 f2 f3 f4 f5 f6 f7;obtain⟨w4,hw4⟩:∃ w4,w4=(((((((w3.setCell ⟨w.heap.size,0,none⟩ (.string t)).setCell ⟨w.heap.size,1,none⟩ (.slice Ar m cr)).setCell ⟨w.heap.size,2,none⟩ (.slice As n2 cs)).setCell ⟨w.heap.size,3,none⟩ (.string nm)).setCell ⟨w.heap.size,4,none⟩ (.int .i64 0)).setCell ⟨w.heap.size,5,none⟩ (.int .i64 sq)).setCell ⟨w.heap.size,6,none⟩ (.int .i64 par)).setCell ⟨w.heap.size,7,none⟩ (.int .i64 md):=⟨_,rfl⟩;rw [<- hw4];have hT:af w3 w4 w.heap.size:=by
  rw [hw4];exact (((((((af.set _ _ _ _).trans (af.set _ _ _ _)).trans (af.set _ _ _ _)).trans (af.set _ _ _ _)).trans (af.set _ _ _ _)).trans (af.set _ _ _ _)).trans (af.set _ _ _ _)).trans (af.set _ _ _ _)
 have hD4:Blk w4 w.heap.size 29 #[.string t,.slice Ar m cr,.slice As n2 cs,.string nm,.int .i64 0,.int .i64 sq,.int .i64 par,.int .i64 md]:=by
  rw [hw4];exact bK (bK (bK (bK (bK (bK (bK (bK HD3.out 0 _) 1 _) 2 _) 3 _) 4 _) 5 _) 6 _) 7 _
 have c0:w4.cell? ⟨w.heap.size,0,none⟩=_:=hD4.cell 0;have c1:w4.cell? ⟨w.heap.size,1,none⟩=_:=hD4.cell 1;have c2:w4.cell? ⟨w.heap.size,2,none⟩=_:=hD4.cell 2;have c3:w4.cell? ⟨w.heap.size,3,none⟩=_:=hD4.cell 3;have c4:w4.cell? ⟨w.heap.size,4,none⟩=_:=hD4.cell 4;have c5:w4.cell? ⟨w.heap.size,5,none⟩=_:=hD4.cell 5;have c6:w4.cell? ⟨w.heap.size,6,none⟩=_:=hD4.cell 6;have c7:w4.cell? ⟨w.heap.size,7,none⟩=_:=hD4.cell 7;have hbel:Below w.heap.size w w4:=(HB0.out.trans (HB3.out.mono HB0.out.size)).trans (hT.below (My _));refine bodyPost_ret (v:=.tuple #[.agg #[.string t,.slice Ar m cr,.slice As n2 cs,.string nm,.int .i64 0,.int .i64 sq,.int .i64 par,.int .i64 md],.bool true]) (by simp [results,Tryz.results12,go_sem,c0,c1,c2,c3,c4,c5,c6,c7]) rfl ⟨_,rfl,?_,hbel⟩;have hd:=(HDI.out.move (w':=w4) fun k hk hlt=>hT.block k (by have:=HBB.out;omega)).lower (Nat.le_of_lt HBB.out)
 rw [HT.out,HMD.out,HSQ.out,HPAR.out,HNM.out,HN2.out,HM.out] at hd;exact hd
end Go.Proofs.YtgccjgpdjkhpdaaGreat.B
