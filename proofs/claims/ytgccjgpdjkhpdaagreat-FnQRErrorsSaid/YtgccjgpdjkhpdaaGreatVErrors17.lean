import Derived.Deep.RegionWith
import Derived.Test.YtgccjgpdjkhpdaaGreatVErrors16
open Go.Proofs.YtgccjgpdjkhpdaaGreatW.PrintWords.Aside0 renaming mk→Mw
open List renaming replicate→Mx,replicate_succ→Mz
open Nat renaming le_refl→My
/-! Own texts of this claim, part 17. -/
namespace Go.Proofs.YtgccjgpdjkhpdaaGreat.B
open Go.RowKit Go.Proofs.YtgccjgpdjkhpdaaGreatW.PrintWords Go.Proofs.YtgccjgpdjkhpdaaGreatW.PrintLast Go.Proofs.YtgccjgpdjkhpdaaGreatW.PrintMore
set_option linter.unusedVariables false
set_option linter.unusedSimpArgs false
def grp (c d c2:Nat):List (Int×Int):=if c2=0 then [((c:Int),(d:Int))] else [((c:Int),(d:Int)),((c2:Int),((d+1:Nat):Int))]
def ii (c2:Nat):Nat:=if c2=0 then 1 else 2
def kI (c c2 i:Nat):Nat:=if i=0 then c else c2
def iA (c c2 i:Nat):Nat:=if i=0 then 0 else if i=1 then c else c+c2
theorem sZ (c d c2:Nat):(grp c d c2).length=ii c2:=by unfold grp ii;split<;>rfl
theorem wS (c d c2 i:Nat)(hi:i<ii c2):(grp c d c2).getD i (0,0)=((kI c c2 i:Int),((d+i:Nat):Int)):=by
 unfold ii at hi;unfold grp
 split at hi
 ·rename_i h
  rw [if_pos h]
  match i,hi with
  | 0,_=>rfl
 rename_i h
 rw [if_neg h]
 match i,hi with
 | 0,_=>rfl
 | 1,_=>rfl
theorem wT (c c2 i:Nat)(hi:i<ii c2):iA c c2 (i+1)=iA c c2 i+kI c c2 i:=by
 unfold ii at hi;unfold iA kI
 split at hi
 ·match i,hi with
  | 0,_=>simp
 match i,hi with
 | 0,_=>simp
 | 1,_=>simp
theorem wU (c c2:Nat):iA c c2 (ii c2)=c+c2:=by
 unfold ii iA
 split
 ·rename_i h;simp [h]
 simp
theorem wV (c c2 i:Nat):iA c c2 i<=c+c2:=by unfold iA;split;omega;split<;>omega
theorem Dh (c d c2 i t:Nat)(hi:i<ii c2)(ht:t<kI c c2 i):dl c d (iA c c2 i+t)=d+i:=by
 unfold ii at hi;unfold kI at ht;unfold dl iA
 split at hi
 ·match i,hi with
  | 0,_=>simp at ht ⊢;omega
 match i,hi with
 | 0,_=>simp at ht ⊢;omega
 | 1,_=>simp
theorem Below.setc {w0 w:World}{B:Nat}(h:Below B w0 w){g i:Nat}(hg:B<=g)(u:Value):Below B w0 (w.setCell ⟨g,i,none⟩ u) :=
 ⟨h.os,h.tape,h.output,by simpa using h.size,fun k hk=>(Below.heap_setCell w _ u k (by show k≠g;omega)).trans (h.block k hk)⟩
theorem bm.grow {w:World}{g B k n m di:Nat}{p q d:Nat->Nat}{cw:Nat->List Nat}(h:bm w g B k n p q d cw)(hk:k<n)(hB:B<=w.heap.size)(hd:d k=di)(hc:cw k=Mx m 0)(o o2:Obj) :
  bm (((((w.alloc o).alloc o2).alloc (.cells (ac .u8 (ak (Mx m 0))).toArray 5)).alloc (.cells #[.int .i64 (di:Int),.slice (some ⟨w.heap.size+1+1,0,none⟩) m m] 270)).setCell ⟨g,k,none⟩ (.pointer (some ⟨w.heap.size+1+1+1,0,none⟩)))
   g B (k+1) n (jR p k (w.heap.size+1+1+1)) (jR q k (w.heap.size+1+1)) d cw:=by
 have h2:bm ((w.alloc o).alloc o2) g B k n p q d cw:=h.below (ai (ai (Below.refl _ _) _) _) (My _);have hs:((w.alloc o).alloc o2).heap.size=w.heap.size+1+1:=by simp
 have:=h2.add hk (by rw [hs];omega)
 rw [hs,hd,hc,List.length_replicate] at this;exact this
theorem bm.facts {w:World}{g B n c d c2 e off j x:Nat}{p q:Nat->Nat}{ws:List Nat}(h:bm w g B n n p q (dl c d) (dD c d c2 e ws off))(hj:j<n)(hx:x<dl c d j+e) :
  w.cell? ⟨g,j,none⟩=some (.pointer (some ⟨p j,0,none⟩))/\w.cell? ⟨p j,1,none⟩=some (.slice (some ⟨q j,0,none⟩) (dl c d j+e) (dl c d j+e))/\(∃ old:Nat,w.cell? ⟨q j,x,none⟩=some (.int .u8 (old:Int)))/\w.frozen? ⟨q j,x,none⟩=false:=by
 refine⟨h.ptr hj hj,?_,⟨_,aA.cell (h.word j hj) x (by rw [wE];exact hx)⟩,Blk.frozen (h.word j hj) x⟩
 have:=(h.blk j hj).cell 1;rw [wE] at this;exact this
theorem bm.step {w:World}{g B n c d c2 e off j x v:Nat}{p q:Nat->Nat}{ws:List Nat}(h:bm w g B n n p q (dl c d) (dD c d c2 e ws off))(hn:c+c2=n)(hj:j<n)(hpos:dK c d c2 j x=off)(hv:ws.getD off 0=v) :
  bm (w.drew.setCell ⟨q j,x,none⟩ (.int .u8 (v:Int))) g B n n p q (dl c d) (dD c d c2 e ws (off+1)):=by
 subst hn;refine (h.below (bC (Below.refl w.heap.size w)) (My _)).set hj ?_ fun i hi hij=>Cu ws hj hi hpos hij
 rw [<- hv];exact Ct ws hj hpos
theorem Di (c d c2 e:Nat)(ws:List Nat){w:World}{g B n:Nat}{p q:Nat->Nat}(hn:c+c2=n)(h:bm w g B n n p q (dl c d) (dD c d c2 e ws (d*n+c2+e*n))):bm w g B n n p q (dl c d) (cB c d c2 e ws):=by
 subst hn;refine⟨h.row,fun i hi=>?_,fun i hi=>?_,h.fresh,h.inj⟩
 ·have:=h.blk i hi;rw [wF ws hi] at this;exact this
 have:=h.word i hi;rw [wF ws hi] at this;exact this
def Dj (w:World)(c d c2 e:Nat)(ws:List Nat)(en:Ending)(w':World):Prop:=∃ g p q,en=.returned (.tuple #[.slice (some ⟨g,0,none⟩) (c+c2) (c+c2),.nilIface])/\w.heap.size<=g/\
 bm w' g w.heap.size (c+c2) (c+c2) p q (dl c d) (cB c d c2 e ws)/\Below w.heap.size w w'
set_option maxHeartbeats 8000000 in
set_option maxRecDepth 20000 in
theorem Dk (w:World)(pv v l gw:Nat)(ws:List Nat)(hV:bT w pv (v:Int) (dw v))(hv:1<=v/\v<=40)(hl:l<4)(hW:aA w gw ws)(hn:ws.length=bW v/8) :
  Calls Tryz.prog 162 #[.slice (some ⟨gw,0,none⟩) (bW v/8) (bW v/8),.pointer (some ⟨pv,0,none⟩),.int .i64 (l:Int)] w (Dj w (av v l) (aN v l) (aE v l) (aW v l) ws):=by
 obtain⟨hT,hR⟩:=jp v hv;have LY:=eD v l hv hl;obtain⟨e,he⟩:∃ e,aW v l=e:=⟨_,rfl⟩;obtain⟨c,hc⟩:∃ c,av v l=c:=⟨_,rfl⟩;obtain⟨d,hd⟩:∃ d,aN v l=d:=⟨_,rfl⟩;obtain⟨c2,hc2⟩:∃ c2,aE v l=c2:=⟨_,rfl⟩;rw [he,hc,hd,hc2] at LY ⊢;obtain⟨T,hTd⟩:∃ T,bW v/8=T:=⟨_,rfl⟩;have hTl:T<=5000:=by omega
 obtain⟨lr,e1,e2,q1,q2,q3,q4,ltot⟩:=LY;rw [hTd] at hT hn ltot ⊢;have hlr:lG v l=((e:Int),grp c d c2):=lr;have HV:=Mw hV;have HW:=Mw hW;have HN:=Mw hn;have HT:=Mw hT;have HTT:=Mw ltot;have k93:=sR w pv v T _ hV hT;have k170:=Cy w pv v l hV hv hl;rw [hlr] at k170;clear lr hlr he hc hd hc2 hTd hV hW hn ltot hT hR hv
 go_enter Tryz.func162,Tryz.ntmps162
 go_wp2_with (first | (go_at_call 93;refine k93.mono ?_;rintro e w' ⟨rfl,rfl⟩) | (go_at_call 170;refine k170.mono ?_;rintro e w' ⟨⟨ge,o,rfl,hL⟩,rfl⟩))
 clear k93 k170;obtain⟨g,⟨es,hb1,hes1,hes2⟩,hb2⟩:=hL;have cE:w.cell? ⟨ge,o,none⟩=some (.int .i64 (e:Int)):=(hb1.cell o).trans hes1;have cL:w.cell? ⟨ge,o+1,none⟩=some (.slice (some ⟨g,0,none⟩) (ii c2) (ii c2)):=by rw [<- sZ c d c2];exact (hb1.cell _).trans hes2
 have HES:=Mw (And.intro hb1 hes1);have HG:=Mw hb2;clear hb1 hes1 hes2 hb2;refine (Cv w ge o _ cL).mono ?_;rintro e' w' ⟨rfl,rfl⟩;clear cE cL;obtain⟨m,hm⟩:∃ m,ii c2=m:=⟨_,rfl⟩;rw [hm];have hm2:1<=m/\m<=2:=by rw [<- hm];unfold ii;split<;>omega
 obtain⟨hm1,hm2⟩:=hm2;have HM:=Mw hm;clear hm
 go_wp2
 go_loopw [9,45] (fun tv v wr=>∃ i t:Nat,i<=m/\v=.int .i64 (i:Int)/\tv=.int .i64 (t:Int)/\t<=100/\Aside0 (t=iA c c2 i)/\Aside0 (Below w.heap.size w wr)) (fun _ v _=>(m-intOf v).toNat)
 case atStart=>exact⟨0,0,Nat.zero_le _,rfl,rfl,by omega,⟨rfl⟩,⟨Below.refl _ _⟩⟩
 case round=>
  obtain⟨i,t,hi,rfl,rfl,ht,HTS,HB⟩:=hrel;by_cases hlt:i<m
  ·have hgr:Blk wr g 221 (fb (grp c d c2)).toArray:=HG.out.below HB.out HG.out.lt;have hat:=tz (grp c d c2) i (by rw [sZ,HM.out];exact hlt)
   rw [wS c d c2 i (by rw [HM.out];exact hlt)] at hat
   obtain⟨x,hx⟩:∃ x,kI c c2 i=x:=⟨_,rfl⟩;have hx1:x<=100:=by rw [<- hx];unfold kI;split<;>omega
   have hsum:t+x=iA c c2 (i+1):=by rw [wT c c2 i (by rw [HM.out];exact hlt),HTS.out,hx]
   have hs100:t+x<=100:=by rw [hsum];have:=wV c c2 (i+1);omega
   rw [hx] at hat;have d0:wr.cell? ⟨g,i*2,none⟩=some (.int .i64 (x:Int)):=(hgr.cell _).trans (by have:=hat.1;rw [Nat.mul_comm] at this;simpa using this)
   have d1:wr.cell? ⟨g,i*2+1,none⟩=some (.int .i64 ((d+i:Nat):Int)):=(hgr.cell _).trans (by have:=hat.2;rw [Nat.mul_comm] at this;simpa using this)
   have HSUM:=Mw hsum;clear hx hat hgr hsum
   go_wp2_with (go_at_call 160;refine (qS _ (x:Int) ((d+i:Nat):Int)).mono ?_;rintro e w' ⟨rfl,rfl⟩)
   go_roundw
   case rel=>exact⟨i+1,t+x,by omega,by go_num,by go_num,by omega,HSUM,⟨by repeat (first | exact HB.out | apply ai | apply au | apply bC)⟩⟩
   case measure=>simp [intOf];omega
  have:m=i:=by omega
  subst this;rw [HM.out.symm] at HTS;have mkb:=CC t (by omega)
  go_wp2
  clear mkb;rw [HM.out] at HTS;obtain⟨n,hn⟩:∃ n,c+c2=n:=⟨_,rfl⟩;have htn:n=t:=by rw [<- hn,<- wU c c2,HM.out,HTS.out]
  subst htn;obtain⟨w1,hw1⟩:∃ w1,w1=wr.alloc (.cells (iV 0 n (fun _=>0)).toArray 257):=⟨_,rfl⟩;rw [<- hw1];obtain⟨gR,hgR⟩:∃ gR,gR=wr.heap.size:=⟨_,rfl⟩;rw [<- hgR];have hbl1:Below w.heap.size w w1:=by rw [hw1];exact ai HB.out _
  have HRW:=Mw (show Blk w1 gR 257 (iV 0 n (fun _=>0)).toArray by rw [hw1,hgR];exact Blk.new _ _ _)
  have HB1:=Mw hbl1;have hgb:w.heap.size<=gR:=by rw [hgR];exact HB.out.size
  have HGB:=Mw hgb;have HNN:=Mw hn;have hn100:n<=100:=by omega
  have HD0:=Mw (show bm w1 gR w.heap.size 0 n (fun _=>0) (fun _=>0) (dl c d) (dD c d c2 e ws 0) from ⟨HRW.out,fun i hi=>absurd hi (by omega),fun i hi=>absurd hi (by omega),fun i hi=>absurd hi (by omega),fun i j hi=>absurd hi (by omega)⟩);clear hw1 hgR hbl1 HB HTS hi ht hlt hgb hn HRW
  go_loopw [14,58] (fun tv v wr=>∃ (i t:Nat) (p q:Nat->Nat),i<=m/\v=.int .i64 (i:Int)/\tv=.int .i64 (t:Int)/\t<=100/\Aside0 (t=iA c c2 i)/\Aside0 (Below w.heap.size w wr)/\Aside0 (bm wr gR w.heap.size t n p q (dl c d) (dD c d c2 e ws 0))) (fun _ v _=>(m-intOf v).toNat)
  case atStart=>exact⟨0,0,_,_,Nat.zero_le _,rfl,rfl,by omega,⟨rfl⟩,HB1,HD0⟩
  case round=>
   obtain⟨i,t,p,q,hi,rfl,rfl,ht,HTS,HB,HD⟩:=hrel;by_cases hlt:i<m
   ·have hgr:Blk wr g 221 (fb (grp c d c2)).toArray:=HG.out.below HB.out HG.out.lt;have hat:=tz (grp c d c2) i (by rw [sZ,HM.out];exact hlt)
    rw [wS c d c2 i (by rw [HM.out];exact hlt)] at hat
    obtain⟨x,hx⟩:∃ x,kI c c2 i=x:=⟨_,rfl⟩;have hx1:x<=100:=by rw [<- hx];unfold kI;split<;>omega
    have hsum:t+x=iA c c2 (i+1):=by rw [wT c c2 i (by rw [HM.out];exact hlt),HTS.out,hx]
    have hs100:t+x<=n:=by rw [hsum];have:=wV c c2 (i+1);have:=HNN.out;omega
    rw [hx] at hat;have d0:wr.cell? ⟨g,i*2,none⟩=some (.int .i64 (x:Int)):=(hgr.cell _).trans (by have:=hat.1;rw [Nat.mul_comm] at this;simpa using this)
    have d1:wr.cell? ⟨g,i*2+1,none⟩=some (.int .i64 ((d+i:Nat):Int)):=(hgr.cell _).trans (by have:=hat.2;rw [Nat.mul_comm] at this;simpa using this)
    obtain⟨di,hdi⟩:∃ di,d+i=di:=⟨_,rfl⟩;rw [hdi] at d1;have hdi1:di<=300:=by omega
    have hdl:∀ s,s<x->dl c d (t+s)=di:=fun s hs=>by rw [HTS.out,<- hdi];exact Dh c d c2 i s (by rw [HM.out];exact hlt) (by rw [hx];exact hs)
    have HDL:=Mw hdl;have HSUM:=Mw hsum;clear hx hat hgr hsum hdl hdi
    go_wp2
    obtain⟨w2,hw2⟩:∃ w2,w2=wr.alloc (.cells #[.int .i64 (x:Int),.int .i64 (di:Int)] 221):=⟨_,rfl⟩;rw [<- hw2];obtain⟨gE,hgE⟩:∃ gE,gE=wr.heap.size:=⟨_,rfl⟩;rw [<- hgE];have HB2:=Mw (show Below w.heap.size w w2 by rw [hw2];exact ai HB.out _)
    have HE2:=Mw (show Blk w2 gE 221 #[.int .i64 (x:Int),.int .i64 (di:Int)] by rw [hw2,hgE];exact Blk.new _ _ _)
    have HD2:=Mw (show bm w2 gR w.heap.size t n p q (dl c d) (dD c d c2 e ws 0) by rw [hw2];exact HD.out.below (ai (Below.refl _ _) _) (My _))
    clear hw2 hgE d0 d1
    go_loopw [14,17] (fun tv v wr=>∃ (s:Nat) (p q:Nat->Nat),s<=x/\v=.int .i64 (s:Int)/\tv=.int .i64 ((t+s:Nat):Int)/\Aside0 (Below w.heap.size w wr)/\Aside0 (Blk wr gE 221 #[.int .i64 (x:Int),.int .i64 (di:Int)])/\Aside0 (bm wr gR w.heap.size (t+s) n p q (dl c d) (dD c d c2 e ws 0))) (fun _ v _=>(x-intOf v).toNat)
    case atStart=>exact⟨0,p,q,Nat.zero_le _,rfl,rfl,HB2,HE2,HD2⟩
    case round=>
     clear HB2 HE2 HD2 HD HB;obtain⟨s,p,q,hs,rfl,rfl,HB,HE,HD⟩:=hrel;have d0:wr.cell? ⟨gE,0,none⟩=some (.int .i64 (x:Int)):=HE.out.cell 0;have d1:wr.cell? ⟨gE,1,none⟩=some (.int .i64 (di:Int)):=HE.out.cell 1;have b0:∀ o,(wr.alloc o).cell? ⟨gE,0,none⟩=some (.int .i64 (x:Int)):=fun o=>(HE.out.alloc o).cell 0
     have b1:∀ o,(wr.alloc o).cell? ⟨gE,1,none⟩=some (.int .i64 (di:Int)):=fun o=>(HE.out.alloc o).cell 1
     by_cases hsx:s<x;rotate_left
     ·have:s=x:=by omega
      subst this
      go_wp2_with (go_at_call 160;refine (qS _ (s:Int) (di:Int)).mono ?_;rintro e w' ⟨rfl,rfl⟩)
      go_roundw
      case rel=>exact⟨i+1,t+s,p,q,by omega,by go_num,rfl,by omega,HSUM,⟨ai HB.out _⟩,⟨HD.out.below (ai (Below.refl _ _) _) (My _)⟩⟩
      case measure=>simp [intOf];omega
     have mk8:∀ W,(Instr.makeSlice 26 (.int .i64 ((e:Int)+(di:Int))) (.int .i64 ((e:Int)+(di:Int)))).run Tryz.prog W=.ok (.slice (some ⟨W.heap.size,0,none⟩) (e+di) (e+di)) (W.alloc (.cells (ac .u8 (ak (Mx (e+di) 0))).toArray 5)):=fun W=>by
      have:=nc (e+di) (by omega) W;rw [show ((e+di:Nat):Int)=(e:Int)+(di:Int) by omega] at this;exact this
     have hkn:t+s<n:=by omega
     have f0:∀ o o2 o3 o4,((((wr.alloc o).alloc o2).alloc o3).alloc o4).frozen? ⟨gR,t+s,none⟩=false:=fun o o2 o3 o4=>Blk.frozen ((((HD.out.row.alloc o).alloc o2).alloc o3).alloc o4) _
     have hold:(iV (t+s) n p).toArray[t+s]? = some (.pointer none):=by simp [iV,hkn,oI]
     have f1:∀ o o2 o3 o4,((((wr.alloc o).alloc o2).alloc o3).alloc o4).cell? ⟨gR,t+s,none⟩=some (.pointer none):=fun o o2 o3 o4=>(Blk.cell ((((HD.out.row.alloc o).alloc o2).alloc o3).alloc o4) _).trans hold
     clear hold;have hbE:Blk wr ge 224 es:=HES.out.1.below HB.out HES.out.1.lt
     go_wp2_with (first | (go_at_call 160;refine (qS _ (x:Int) (di:Int)).mono ?_;rintro e w' ⟨rfl,rfl⟩) | (go_at_call 161;refine (yo _ (x:Int) (di:Int)).mono ?_;rintro e w' ⟨rfl,rfl⟩) | (go_at_call 158;refine (wG _ ge o (e:Int) (Eq.trans (Blk.cell (by repeat (first | exact hbE | apply Blk.alloc)) o) HES.out.2)).mono ?_;rintro e w' ⟨rfl,rfl⟩) | (go_at_call 171;refine (Cz _ (di:Int) _ _).mono ?_;rintro e w' ⟨rfl,rfl⟩))
     go_roundw
     have hgE:gE≠gR:=bd HE.out HD.out.row (by decide);have hE4:∀ o o2 o3 o4 (u:Value),Blk (((((wr.alloc o).alloc o2).alloc o3).alloc o4).setCell ⟨gR,t+s,none⟩ u) gE 221 #[.int .i64 (x:Int),.int .i64 (di:Int)]:=fun o o2 o3 o4 u=>Blk.far (p:=⟨gR,t+s,none⟩) ((((HE.out.alloc o).alloc o2).alloc o3).alloc o4) hgE u
     have hB4:∀ o o2 o3 o4 (u:Value),Below w.heap.size w (((((wr.alloc o).alloc o2).alloc o3).alloc o4).setCell ⟨gR,t+s,none⟩ u):=fun o o2 o3 o4 u=>Below.setc (ai (ai (ai (ai HB.out _) _) _) _) HGB.out u
     have hlen:dD c d c2 e ws 0 (t+s)=Mx (e+di) 0:=by rw [Cs,HDL.out s hsx,Nat.add_comm]
     have hD4:=fun o o2=>HD.out.grow hkn HB.out.size (HDL.out s hsx) hlen o o2
     case rel=>exact⟨s+1,_,_,by omega,by go_num,by go_num,⟨hB4 _ _ _ _ _⟩,⟨hE4 _ _ _ _ _⟩,⟨hD4 _ _⟩⟩
     case measure=>simp [intOf];omega
   have:m=i:=by omega
   subst this;have hbE:Blk wr ge 224 es:=HES.out.1.below HB.out HES.out.1.lt;have cE:wr.cell? ⟨ge,o,none⟩=some (.int .i64 (e:Int)):=(hbE.cell o).trans HES.out.2;have htn:n=t:=by rw [HTS.out,<- HM.out,wU,HNN.out]
   subst htn;have hn1:1<=n:=by have:=HNN.out;omega
   obtain⟨r0,r1,-⟩:=HD.out.facts (j:=0) (x:=0) (by omega) (by omega);have hdl0:dl c d 0=d:=by unfold dl;rw [if_pos (by omega)]
   rw [hdl0] at r1;have hcn:c<=n:=by have:=HNN.out;omega
   have HCE:=Mw cE
   go_wp2
   clear r0 r1 hdl0 hbE cE;obtain⟨wo,hwo⟩:∃ wo,wo=wr:=⟨_,rfl⟩;rw [<- hwo] at HB HD HCE ⊢;clear hwo
   go_loopw [21] (fun v wr=>∃ j:Nat,v=.int .i64 (j:Int)/\j<n/\c<=j+1/\wr=wo) (fun v _=>(intOf v).toNat)
   case atStart=>exact⟨n-1,by go_num,by omega,by omega,by first | rfl | trivial⟩
   case round=>
    obtain⟨j,rfl,hj1,hj2,rfl⟩:=hrel;obtain⟨r0,r1,-⟩:=HD.out.facts (j:=j) (x:=0) hj1 (by omega);by_cases hjc:c<=j
    ·have hdlj:dl c d j=d+1:=by unfold dl;rw [if_neg (by omega)]
     rw [hdlj] at r1
     go_wp2
     go_roundw
     case rel=>exact⟨j-1,by go_num,by omega,by omega,by first | rfl | trivial⟩
     case measure=>simp [intOf];omega
    have hdlj:dl c d j=d:=by unfold dl;rw [if_pos (by omega)]
    rw [hdlj] at r1;have hjc1:(j:Int)+1=(c:Int):=by omega
    have cE:=HCE.out;have kE:=wG wr ge o (e:Int) cE
    go_wp2_with (go_at_call 158;refine kE.mono ?_;rintro e' w' ⟨rfl,rfl⟩)
    clear r0 r1 hdlj cE kE hjc1 hjc hj1 hj2;have HCC:=HNN;obtain⟨P1,hP1⟩:∃ P1,d*n=P1:=⟨_,rfl⟩;obtain⟨P2,hP2⟩:∃ P2,e*n=P2:=⟨_,rfl⟩;have hPT:P1+c2+P2=T:=by have:=HTT.out;rw [HNN.out,hP1,hP2] at this;exact this
    have HP1:=Mw hP1;have HP2:=Mw hP2;have hcc:c+c2=n:=HNN.out;have h4:∀ i j,i<d->j<n->i*n+j<P1:=fun i j hi hj=>by rw [<- HP1.out];exact lH hj hi
    have H4:=Mw h4;have h6:∀ i j,i<e->j<n->i*n+j<P2:=fun i j hi hj=>by rw [<- HP2.out];exact lH hj hi
    have H6:=Mw h6;clear hP1 hP2 h4 h6 HCE
    go_loopw [24,25] (fun vo vi wr=>∃ i off:Nat,vi=.int .i64 (i:Int)/\vo=.int .i64 (off:Int)/\i<=d/\off<=T/\Aside0 (off=i*n)/\Aside0 (Below w.heap.size w wr)/\Aside0 (bm wr gR w.heap.size n n p q (dl c d) (dD c d c2 e ws off))) (fun _ vi _=>(d-intOf vi).toNat)
    case atStart=>exact⟨0,0,rfl,rfl,by omega,by omega,⟨by simp⟩,HB,HD⟩
    case round=>
     clear HB HD;obtain⟨i,off,rfl,rfl,hi,hoff,HO,HB,HD⟩:=hrel;by_cases hid:i<d
     ·go_wp2
      obtain⟨w4,hw4⟩:∃ w4,w4=wr:=⟨_,rfl⟩;rw [<- hw4] at HB HD ⊢;clear hw4;have HO1:=HO
      go_loopw [24,26] (fun vo vj wr=>∃ j off:Nat,vj=.int .i64 (j:Int)/\vo=.int .i64 (off:Int)/\j<=n/\off<=T/\Aside0 (off=i*n+j)/\Aside0 (Below w.heap.size w wr)/\Aside0 (bm wr gR w.heap.size n n p q (dl c d) (dD c d c2 e ws off))) (fun _ vj _=>(n-intOf vj).toNat)
      case atStart=>exact⟨0,off,rfl,rfl,by omega,by omega,HO1,HB,HD⟩
      case round=>
       clear HB HD;obtain⟨j,off,rfl,rfl,hj,hoff,HO,HB,HD⟩:=hrel;by_cases hjn:j<n;rotate_left
       ·have:n=j:=by omega
        subst this
        go_wp2
        go_roundw
        case rel=>exact⟨i+1,off,by go_num,rfl,by omega,by omega,⟨by rw [HO.out,Nat.add_mul,Nat.one_mul]⟩,HB,HD⟩
        case measure=>simp [intOf];omega
       have hoP:off<P1:=by rw [HO.out];exact H4.out i j hid hjn
       have hoT:off<T:=by omega
       have hpos:dK c d c2 j i=off:=by unfold dK;rw [if_pos hid,HNN.out,HO.out]
       have hfit:i<dl c d j+e:=by unfold dl;split<;>omega
       obtain⟨r0,r1,⟨old,r2⟩,r3⟩:=HD.out.facts (j:=j) (x:=i) hjn hfit;obtain⟨L,hL⟩:∃ L,dl c d j+e=L:=⟨_,rfl⟩;have hxL:i<L:=by rw [<- hL];exact hfit
       rw [hL] at r1;obtain⟨vv,hvv⟩:∃ vv,ws.getD off 0=vv:=⟨_,rfl⟩;have r4:wr.cell? ⟨gw,off,none⟩=some (.int .u8 (vv:Int)):=by
        have:=aA.cell (Blk.below HW.out HB.out (Blk.lt HW.out)) off (by rw [HN.out];exact hoT)
        rw [hvv] at this;exact this
       have HD2:=Mw (HD.out.step HNN.out hjn hpos hvv);have HB2:=Mw (Below.setc (bC HB.out) (HD.out.fresh j hjn) (i:=i) (.int .u8 (vv:Int)));clear hL hvv hpos
       go_wp2
       apply iW
       case r=>
        intro REST
        go_region
        all_goals exact REST
       go_wp2
       clear r0 r1 r2 r3 r4
       go_roundw
       case rel=>exact⟨j+1,off+1,by go_num,by go_num,by omega,by omega,⟨by rw [HO.out,Nat.add_assoc]⟩,HB2,HD2⟩
       case measure=>simp [intOf];omega
     have:d=i:=by omega
     subst this
     go_wp2
     obtain⟨w4,hw4⟩:∃ w4,w4=wr:=⟨_,rfl⟩;rw [<- hw4] at HB HD ⊢;clear hw4;have HO1:=HO
     go_loopw [24,27] (fun vo vj wr=>∃ j off:Nat,vj=.int .i64 (j:Int)/\vo=.int .i64 (off:Int)/\c<=j/\j<=n/\off<=T/\Aside0 (off=P1+(j-c))/\Aside0 (Below w.heap.size w wr)/\Aside0 (bm wr gR w.heap.size n n p q (dl c d) (dD c d c2 e ws off))) (fun _ vj _=>(n-intOf vj).toNat)
     case atStart=>exact⟨c,off,rfl,rfl,by omega,by omega,by omega,⟨by rw [HO1.out,HP1.out];omega⟩,HB,HD⟩
     case round=>
      clear HB HD;obtain⟨j,off,rfl,rfl,hcj,hj,hoff,HO,HB,HD⟩:=hrel;by_cases hjn:j<n
      ·have hdl:dl c d j=d+1:=by unfold dl;rw [if_neg (by omega)]
       have hoT:off<T:=by have:=HO.out;omega
       have hpos:dK c d c2 j d=off:=by unfold dK;rw [if_neg (by omega),hdl,if_pos (by omega),HNN.out,HP1.out,HO.out]
       have hfit:d<dl c d j+e:=by rw [hdl];omega
       clear hdl;obtain⟨r0,r1,⟨old,r2⟩,r3⟩:=HD.out.facts (j:=j) (x:=d) hjn hfit;obtain⟨L,hL⟩:∃ L,dl c d j+e=L:=⟨_,rfl⟩;have hxL:d<L:=by rw [<- hL];exact hfit
       rw [hL] at r1;obtain⟨vv,hvv⟩:∃ vv,ws.getD off 0=vv:=⟨_,rfl⟩;have r4:wr.cell? ⟨gw,off,none⟩=some (.int .u8 (vv:Int)):=by
        have:=aA.cell (Blk.below HW.out HB.out (Blk.lt HW.out)) off (by rw [HN.out];exact hoT)
        rw [hvv] at this;exact this
       have HD2:=Mw (HD.out.step HNN.out hjn hpos hvv);have HB2:=Mw (Below.setc (bC HB.out) (HD.out.fresh j hjn) (i:=d) (.int .u8 (vv:Int)));clear hL hvv hpos
       go_wp2
       apply iW
       case r=>
        intro REST
        go_region
        all_goals exact REST
       go_wp2
       clear r0 r1 r2 r3 r4
       go_roundw
       case rel=>exact⟨j+1,off+1,by go_num,by go_num,by omega,by omega,by omega,⟨by have:=HO.out;omega⟩,HB2,HD2⟩
       case measure=>simp [intOf];omega
      have:n=j:=by omega
      subst this;obtain⟨r0,r1,-⟩:=HD.out.facts (j:=0) (x:=0) (by omega) (by omega);have hdl0:dl c d 0=d:=by unfold dl;rw [if_pos (by omega)]
      rw [hdl0] at r1
      go_wp2
      clear r0 r1 hdl0;obtain⟨w4,hw4⟩:∃ w4,w4=wr:=⟨_,rfl⟩;rw [<- hw4] at HB HD ⊢;clear hw4
      go_loopw [24,29] (fun vo vi wr=>∃ i off:Nat,vi=.int .i64 ((d+i:Nat):Int)/\vo=.int .i64 (off:Int)/\i<=e/\off<=T/\Aside0 (off=P1+c2+i*n)/\Aside0 (Below w.heap.size w wr)/\Aside0 (bm wr gR w.heap.size n n p q (dl c d) (dD c d c2 e ws off))) (fun _ vi _=>(d+e-intOf vi).toNat)
      case atStart=>exact⟨0,off,rfl,rfl,by omega,by omega,⟨by have:=HO.out;omega⟩,HB,HD⟩
      case round=>
       clear HB HD;obtain⟨i,off,rfl,rfl,hi,hoff,HO,HB,HD⟩:=hrel;by_cases hie:i<e;rotate_left
       ·have:e=i:=by omega
        subst this;have hend:off=d*n+c2+e*n:=by rw [HO.out,HP1.out]
        have hDD:=HD.out;rw [hend] at hDD;have HDD:=Mw (Di c d c2 e ws HNN.out hDD);clear hend hDD
        go_wp2
        go_ret2
        refine⟨gR,p,q,by first | (rw [HNN.out];done) | (rw [HNN.out];rfl),HGB.out,?_,HB.out⟩
        rw [HNN.out];exact HDD.out
       go_wp2
       obtain⟨w4,hw4⟩:∃ w4,w4=wr:=⟨_,rfl⟩;rw [<- hw4] at HB HD ⊢;clear hw4;have HO1:=HO
       go_loopw [24,30] (fun vo vj wr=>∃ j off:Nat,vj=.int .i64 (j:Int)/\vo=.int .i64 (off:Int)/\j<=n/\off<=T/\Aside0 (off=P1+c2+i*n+j)/\Aside0 (Below w.heap.size w wr)/\Aside0 (bm wr gR w.heap.size n n p q (dl c d) (dD c d c2 e ws off))) (fun _ vj _=>(n-intOf vj).toNat)
       case atStart=>exact⟨0,off,rfl,rfl,by omega,by omega,HO1,HB,HD⟩
       case round=>
        clear HB HD;obtain⟨j,off,rfl,rfl,hj,hoff,HO,HB,HD⟩:=hrel;by_cases hjn:j<n;rotate_left
        ·have:n=j:=by omega
         subst this
         go_wp2
         go_roundw
         case rel=>exact⟨i+1,off,by go_num,rfl,by omega,by omega,⟨by rw [HO.out,Nat.add_mul,Nat.one_mul,Nat.add_assoc]⟩,HB,HD⟩
         case measure=>simp [intOf];omega
        have hoP:off<T:=by
         have:=H6.out i j hie hjn;have:=HO.out;omega
        have hoT:off<T:=by omega
        by_cases hjc:j<c
        ·have hdl:dl c d j=d:=by unfold dl;rw [if_pos hjc]
         have hpos:dK c d c2 j (d+i)=off:=by unfold dK;rw [if_neg (by omega),hdl,if_neg (by omega),HNN.out,HP1.out,HO.out,show d+i-d=i by omega]
         have hfit:d+i<dl c d j+e:=by rw [hdl];omega
         clear hdl;obtain⟨r0,r1,⟨old,r2⟩,r3⟩:=HD.out.facts (j:=j) (x:=(d+i)) hjn hfit;obtain⟨L,hL⟩:∃ L,dl c d j+e=L:=⟨_,rfl⟩;have hxL:(d+i)<L:=by rw [<- hL];exact hfit
         rw [hL] at r1;obtain⟨vv,hvv⟩:∃ vv,ws.getD off 0=vv:=⟨_,rfl⟩;have r4:wr.cell? ⟨gw,off,none⟩=some (.int .u8 (vv:Int)):=by
          have:=aA.cell (Blk.below HW.out HB.out (Blk.lt HW.out)) off (by rw [HN.out];exact hoT)
          rw [hvv] at this;exact this
         have HD2:=Mw (HD.out.step HNN.out hjn hpos hvv);have HB2:=Mw (Below.setc (bC HB.out) (HD.out.fresh j hjn) (i:=(d+i)) (.int .u8 (vv:Int)));clear hL hvv hpos
         go_wp2
         apply iW
         case r=>
          intro REST
          go_region
          all_goals exact REST
         go_wp2
         clear r0 r1 r2 r3 r4
         go_roundw
         case rel=>exact⟨j+1,off+1,by go_num,by go_num,by omega,by omega,⟨by rw [HO.out,Nat.add_assoc]⟩,HB2,HD2⟩
         case measure=>simp [intOf];omega
        have hdl:dl c d j=d+1:=by unfold dl;rw [if_neg hjc]
        have hpos:dK c d c2 j (d+i+1)=off:=by unfold dK;rw [if_neg (by omega),hdl,if_neg (by omega),HNN.out,HP1.out,HO.out,show d+i+1-(d+1)=i by omega]
        have hfit:d+i+1<dl c d j+e:=by rw [hdl];omega
        clear hdl;obtain⟨r0,r1,⟨old,r2⟩,r3⟩:=HD.out.facts (j:=j) (x:=(d+i+1)) hjn hfit;obtain⟨L,hL⟩:∃ L,dl c d j+e=L:=⟨_,rfl⟩;have hxL:(d+i+1)<L:=by rw [<- hL];exact hfit
        rw [hL] at r1;obtain⟨vv,hvv⟩:∃ vv,ws.getD off 0=vv:=⟨_,rfl⟩;have r4:wr.cell? ⟨gw,off,none⟩=some (.int .u8 (vv:Int)):=by
         have:=aA.cell (Blk.below HW.out HB.out (Blk.lt HW.out)) off (by rw [HN.out];exact hoT)
         rw [hvv] at this;exact this
        have HD2:=Mw (HD.out.step HNN.out hjn hpos hvv);have HB2:=Mw (Below.setc (bC HB.out) (HD.out.fresh j hjn) (i:=(d+i+1)) (.int .u8 (vv:Int)));clear hL hvv hpos
        go_wp2
        apply iW
        case r=>
         intro REST
         go_region
         all_goals exact REST
        go_wp2
        clear r0 r1 r2 r3 r4
        go_roundw
        case rel=>exact⟨j+1,off+1,by go_num,by go_num,by omega,by omega,⟨by rw [HO.out,Nat.add_assoc]⟩,HB2,HD2⟩
        case measure=>simp [intOf];omega
theorem lI {m:Nat}{xs:List Nat}(h:ab m xs):ab m (bJ xs):=by
 unfold bJ;cases hd:xs.dropWhile (·==0) with
 | nil=>intro x hx;rw [List.mem_singleton.1 hx];exact Nat.two_pow_pos m
 | cons y ys=>
  intro x hx;have:x∈xs.dropWhile (·==0):=by rw [hd];exact hx
  exact h x ((List.dropWhile_suffix _).subset this)
theorem wW (m p r:Nat)(xs:List Nat):ao m p r (bJ xs)=ao m p r xs:=by
 have key:∀ xs:List Nat,ao m p r (match xs.dropWhile (·==0) with | []=>[0] | y :: ys=>y :: ys)=ao m p r xs:=by
  intro xs
  induction xs with
  | nil=>show gm m p 0 r ^^^ 0=0;rw [fh];rfl
  | cons x xs ih=>
   by_cases hx:x=0;rotate_left
   ·rw [List.dropWhile_cons,if_neg (by simpa using hx)]
   subst hx;rw [List.dropWhile_cons,if_pos (show (0==0)=true from rfl),ih];show _=gI m p r (gm m p 0 r ^^^ 0) xs;rw [fh];rfl
 exact key xs
theorem mE (xs:List Nat)(h:xs≠[]):(bJ xs).length<=xs.length:=by
 have hpos:0<xs.length:=by cases xs with | nil=>exact absurd rfl h | cons _ _=>simp
 unfold bJ;cases hd:xs.dropWhile (·==0) with
 | nil=>exact hpos
 | cons y ys=>
  have:=(List.dropWhile_suffix (l:=xs) (·==0)).length_le;rw [hd] at this;exact this
theorem Dl (n i:Nat):(Mx n 0).set i 0=Mx n 0:=by
 apply List.ext_getElem
 ·simp
 intro j h1 h2;rw [List.getElem_set]
 split<;>simp
set_option maxHeartbeats 1000000 in
set_option maxRecDepth 8000 in
theorem Dm (w:World)(rs gf m p b g T:Nat)(xs:List Nat)(F:aG m p)(hP:eA m p)(hm:m<=12)(hR:Blk w rs 196 #[.pointer (some ⟨gf,0,none⟩)])(hG:bF w gf m p b)(hX:ag w g xs)(hx:ab m xs)(h0:xs≠[])(hl:xs.length<=100000)
  (hT:T+b<=2 ^ m) (hs:∀ i,i<T->ao m p (gx m p (i+b)) xs=0) :
  Calls Tryz.prog 172 #[.pointer (some ⟨rs,0,none⟩),.slice (some ⟨g,0,none⟩) xs.length xs.length,.int .i64 (T:Int)] w fun e w'=>e=.returned .nilIface/\Below w.heap.size w w':=by
 have hN4:2 ^ m<=4096:=Nat.le_trans (Nat.pow_le_pow_right (by omega) hm) (by decide);have HF:=Mw F;have HP:=Mw hP;have HR:=Mw hR;have HG:=Mw hG;have HX:=Mw hx;have HS:=Mw hs;have HT:=Mw hT;have hlen:=mE xs h0;have HL:=Mw (Nat.le_trans hlen hl);have kp:=j8 w gf g 0 xs.length xs (b6.whole hX) (My _) h0 hl;have c0:w.cell? ⟨rs,0,none⟩=some (.pointer (some ⟨gf,0,none⟩)):=hR.cell 0;obtain⟨n,hn⟩:∃ n,xs.length=n:=⟨_,rfl⟩;rw [hn] at kp ⊢;have hT4:T<=4096:=by omega
 have hb4:b<=4096:=by omega
 clear F hP hR hG hX hx h0 hl hs hT hlen hn hN4;have mk:=sa T (by omega)
 go_enter Tryz.func172,Tryz.ntmps172
 go_wp2_with (go_at_call 146;refine kp.mono ?_;rintro e w1 ⟨q,rfl,hq,hPA,hb1⟩)
 clear kp mk;have HPA:=Mw hPA;have HB1:=Mw hb1;clear hPA hb1 c0;obtain⟨gs,hgs⟩:∃ gs,gs=w1.heap.size:=⟨_,rfl⟩;rw [<- hgs];obtain⟨w2,hw2⟩:∃ w2,w2=w1.alloc (.cells (ac .i64 (ak (Mx T 0))).toArray 3):=⟨_,rfl⟩;rw [<- hw2];have HZ:=Mw (show ag w2 gs (Mx T 0) by rw [hw2,hgs];exact Blk.new _ _ _)
 have HB2:=Mw (show Below w1.heap.size w1 w2 by rw [hw2];exact ai (Below.refl _ _) _)
 have HGS:=Mw hgs;clear hw2 hgs
 go_loopw [10,11] (fun vb vi wr=>∃ i:Nat,vi=.int .i64 (i:Int)/\vb=.bool true/\i<=T/\Aside0 (Below w1.heap.size w1 wr)/\Aside0 (ag wr gs (Mx T 0))) (fun _ vi _=>(T-intOf vi).toNat)
 case atStart=>exact⟨0,rfl,rfl,by omega,HB2,HZ⟩
 case round=>
  clear HB2 HZ;obtain⟨i,rfl,rfl,hi,HB,HZ⟩:=hrel;by_cases hiT:i<T;rotate_left
  ·have:T=i:=by omega
   subst this
   go_wp2
   go_ret
   exact⟨rfl,sv HB1.out HB1.out.size HB.out⟩
  have hR1:=(HR.out.below HB1.out HR.out.lt).below HB.out (HR.out.below HB1.out HR.out.lt).lt;have d0:wr.cell? ⟨rs,0,none⟩=some (.pointer (some ⟨gf,0,none⟩)):=hR1.cell 0;have HG2:=Mw ((HG.out.below HB1.out (My _)).below HB.out (My _));have HP2:=Mw (HPA.out.below HB.out (My _));have hib:i+b<2 ^ m:=by have:=HT.out;omega
  have k1:=fun k=>uF (wr.drewN k) gf m p b (HG2.out.drawn k)
  have k2:=fun k=>AA (wr.drewN k) gf m p b (i+b) (HG2.out.drawn k) hib
  rw [show ((i+b:Nat):Int)=(i:Int)+(b:Int) by omega] at k2;have k3:=fun k=>se (wr.drewN k) q gf m p b (gx m p (i+b)) (bJ xs) HF.out HP.out hm (HG2.out.drawn k) (HP2.out.drawn k) (lI HX.out) (dm HF.out _) HL.out
  rw [wW,HS.out i hiT] at k3;obtain⟨a,ha⟩:∃ a,gx m p (i+b)=a:=⟨_,rfl⟩;rw [ha] at k2 k3;have z1:wr.cell? ⟨gs,T-1-i,none⟩=some (.int .i64 0):=by
   have:=HZ.out.cell (T-1-i) (by rw [List.length_replicate];omega)
   rw [this];simp only [List.getD,List.getElem?_replicate]
   split<;>rfl
  have z2:wr.frozen? ⟨gs,T-1-i,none⟩=false:=Blk.frozen HZ.out _;obtain⟨j,hj⟩:∃ j,T-1-i=j:=⟨_,rfl⟩;rw [hj] at z1 z2;have hji:(T:Int)-1-(i:Int)=(j:Int):=by omega
  have hjT:j<T:=by omega
  have hgsz:w1.heap.size<=gs:=by rw [HGS.out];exact My _
  have HGZ:=Mw hgsz;have HZ2:=Mw (fun k=>show ag ((wr.drewN k).setCell ⟨gs,j,none⟩ (.int .i64 0)) gs (Mx T 0) by
   have:=(show ag (wr.drewN k) gs (Mx T 0) from Blk.below HZ.out (au (Below.refl wr.heap.size wr) k) (Blk.lt HZ.out)).set j 0;rw [Dl] at this;exact this)
  have HBZ:=Mw (fun k=>(show Below w1.heap.size w1 ((wr.drewN k).setCell ⟨gs,j,none⟩ (.int .i64 0)) from Below.setc (au HB.out k) HGZ.out _));clear hR1 hib ha hj hgsz
  go_wp2
  go_quiet (first
   | (go_at_call 177;exact Calls.quiet_of_same (k1 _))
   | (go_at_call 176;exact Calls.quiet_of_same (k2 _))
   | (go_at_call 175;exact Calls.quiet_of (k3 _)))
  clear k1 k2 k3
  go_wp2
  go_roundw
  case rel=>exact⟨i+1,by go_num,rfl,by omega,⟨HBZ.out _⟩,⟨HZ2.out _⟩⟩
  case measure=>simp [intOf];omega
def qq (w:World)(gf:Nat)(xs:List Nat)(e:Ending)(w':World):Prop:=∃ q,e=.returned (.tuple #[.pointer (some ⟨q,0,none⟩),.nilIface])/\aB w' q gf xs/\Below w.heap.size w w'
theorem kJ (n:Nat)(h:n<=1000000)(w:World):(Instr.makeSlice 93 (.int .i64 (n:Int)) (.int .i64 (n:Int))).run Tryz.prog w=.ok (.slice (some ⟨w.heap.size,0,none⟩) n n) (w.alloc (.cells (ac .i64 (ak (Mx n 0))).toArray 3)):=by
 obtain⟨i,hi,hz,hs,hb⟩:=info_parts n9;have:=mH (P:=Tryz.prog) 93 3 i (.int .i64 0) Tryz.underlying93 hi hz .i64 .i64 n n (My _) (by rw [hb];omega) (by omega) w
 have e:madeCells (Value.int .i64 0).cells (n*1)=(ac .i64 (ak (Mx n 0))).toArray:=by
  apply Array.toList_inj.1;rw [Nat.mul_one];exact (toList_madeCells_one _ _).trans (by simp [ac,ak])
 rw [this,hs,e]
def dR (d c:Nat):List Nat:=if c=0 then [0] else c :: Mx d 0
set_option maxRecDepth 8000 in
theorem wX (w:World)(gf m p b d c:Nat)(hm:m<=12)(hG:bF w gf m p b)(hc:c<2 ^ m)(hd:d<=2000) :
  Calls Tryz.prog 178 #[.pointer (some ⟨gf,0,none⟩),.int .i64 (d:Int),.int .i64 (c:Int)] w (qq w gf (dR d c)):=by
 by_cases h0:c=0
 ·subst h0;obtain⟨ge,gl,zp,op,ls,h1,_,_,_,h5,_⟩:=hG;have c2:=h1.cell 2;have H5:=Mw h5;clear h1 h5 hc
  go_enter Tryz.func178,Tryz.ntmps178
  go_wp2
  go_ret2
  exact⟨zp,rfl,H5.out,Below.refl _ _⟩
 have hb:((c:Int)==0)=false:=by simp;omega
 have hmk:=kJ (d+1) (by omega) w;obtain⟨w1,hw1⟩:∃ w1,w1=w.alloc (.cells (ac .i64 (ak (Mx (d+1) 0))).toArray 3):=⟨_,rfl⟩;rw [<- hw1] at hmk;obtain⟨gs,hgs⟩:∃ gs,gs=w.heap.size:=⟨_,rfl⟩;have HB1:=Mw (show Below w.heap.size w w1 by rw [hw1];exact ai (Below.refl _ _) _)
 have hZ:ag w1 gs (Mx (d+1) 0):=by rw [hw1,hgs];exact Blk.new _ _ _
 have z1:w1.cell? ⟨gs,0,none⟩=some (.int .i64 0):=by
  have:=hZ.cell 0 (by simp);simpa [Mz] using this
 have z2:w1.frozen? ⟨gs,0,none⟩=false:=Blk.frozen hZ 0;have HGS:=Mw hgs;have e1:((d+1:Nat):Int)=(d:Int)+1:=by omega
 rw [<- hgs,e1] at hmk;have hS:=hZ.set 0 c;rw [Mz,List.set_cons_zero] at hS;obtain⟨w2,hw2⟩:∃ w2,w2=w1.setCell ⟨gs,0,none⟩ (.int .i64 (c:Int)):=⟨_,rfl⟩;rw [<- hw2] at hS;have HW2:=Mw hw2;have HB2:=Mw (show Below w.heap.size w w2 by rw [hw2];exact HB1.out.trans ((af.set w1 gs 0 _).below (by rw [hgs];exact My _)))
 have kp:=Az w2 gf gs 0 (d+1) (c :: Mx d 0) (b6.whole hS) (by simp) (by simp) (.inr h0) (by simp;omega)
 rw [show (c :: Mx d 0).length=d+1 by simp] at kp;have HP:=Mw (show dR d c=c :: Mx d 0 by unfold dR;rw [if_neg h0])
 clear hw1 hgs hZ e1 hS hw2 hG hc h0
 go_enter Tryz.func178,Tryz.ntmps178
 go_wp2_with fail
 rw [<- HW2.out];refine kp.mono ?_;rintro e w3 ⟨q,rfl,_,hq,hb3⟩;have HQ:=Mw hq;have HB3:=Mw (HB2.out.trans (hb3.mono HB2.out.size));clear hq hb3 kp z1 z2 hmk
 go_wp2_with fail
 go_ret2
 exact⟨q,rfl,by rw [HP.out];exact HQ.out,HB3.out⟩
def eE (m p c:Nat)(xs:List Nat)(N i:Nat):List Nat:=((xs.take i).map fun x=>gm m p x c)++Mx (N-i) 0
theorem wY (m p c N i:Nat)(xs:List Nat)(h:i<xs.length)(hN:xs.length<=N):(eE m p c xs N i).set i (gm m p (xs.getD i 0) c)=eE m p c xs N (i+1):=by
 unfold eE;have hl:((xs.take i).map fun x=>gm m p x c).length=i:=by simp;omega
 rw [List.set_append_right _ _ (by omega),hl,Nat.sub_self,show N-i=N-(i+1)+1 by omega,Mz,List.set_cons_zero,pm xs i h,List.map_append,List.append_assoc];rfl
theorem wZ (m p c N i:Nat)(xs:List Nat)(h:i<=xs.length)(hN:xs.length<=N):(eE m p c xs N i).length=N:=by
 unfold eE;simp;omega
theorem xd (m p c N i:Nat)(xs:List Nat)(h:i<xs.length)(hN:xs.length<=N):(eE m p c xs N i).getD i 0=0:=by
 unfold eE;have hl:((xs.take i).map fun x=>gm m p x c).length=i:=by simp;omega
 rw [List.getD_eq_getElem?_getD,List.getElem?_append_right (by omega),hl,Nat.sub_self,show N-i=N-(i+1)+1 by omega,Mz];rfl
def fK (m p d c:Nat)(xs:List Nat):List Nat:=if c=0 then [0] else bJ (xs.map (fun x=>gm m p x c)++Mx d 0)
theorem aB.field {w:World}{q gf:Nat}{xs:List Nat}(h:aB w q gf xs):w.cell? ⟨q,0,none⟩=some (.pointer (some ⟨gf,0,none⟩)):=by
 obtain⟨g,o,c,h1,_⟩:=h;exact h1.cell 0
set_option maxHeartbeats 4000000 in
set_option maxRecDepth 8000 in
theorem Dn (w:World)(q gf m p b d c:Nat)(xs:List Nat)(F:aG m p)(hP:eA m p)(hm:m<=12)(hG:bF w gf m p b)(hQ:aB w q gf xs)(hx:ab m xs)(hc:c<2 ^ m)(hd:d<=2000)(hl:xs.length<=2000) :
  Calls Tryz.prog 193 #[.pointer (some ⟨q,0,none⟩),.int .i64 (d:Int),.int .i64 (c:Int)] w (qq w gf (fK m p d c xs)):=by
 by_cases h0:c=0
 ·subst h0;have c0:=hQ.field;have k1:=pI w gf m p b hG;clear hG hQ hx hc
  go_enter Tryz.func193,Tryz.ntmps193
  go_wp2_with (go_at_call 188;refine k1.mono ?_;rintro e w' ⟨z,rfl,hz,rfl⟩;have HZ:=Mw hz;clear hz)
  go_ret2
  exact⟨z,rfl,HZ.out,Below.refl _ _⟩
 have hb:((c:Int)==0)=false:=by simp;omega
 obtain⟨n,hn⟩:∃ n,xs.length=n:=⟨_,rfl⟩;obtain⟨g,o,cx,h1,h2,h3,h4⟩:=hQ;have c0:w.cell? ⟨q,0,none⟩=some (.pointer (some ⟨gf,0,none⟩)):=h1.cell 0;have c1:w.cell? ⟨q,1,none⟩=some (.slice (some ⟨g,o,none⟩) xs.length cx):=h1.cell 1;rw [hn] at c1 h2 hl;have hmk:=kJ (n+d) (by omega) w;obtain⟨w1,hw1⟩:∃ w1,w1=w.alloc (.cells (ac .i64 (ak (Mx (n+d) 0))).toArray 3):=⟨_,rfl⟩;rw [<- hw1] at hmk;obtain⟨gs,hgs⟩:∃ gs,gs=w.heap.size:=⟨_,rfl⟩;have HB1:=Mw (show Below w.heap.size w w1 by rw [hw1];exact ai (Below.refl _ _) _)
 have HZ1:=Mw (show ag w1 gs (eE m p c xs (n+d) 0) by rw [hw1,hgs];unfold eE;rw [List.take_zero];exact Blk.new _ _ _)
 have HGS:=Mw hgs;have e1:((n+d:Nat):Int)=(n:Int)+(d:Int):=by omega
 rw [<- hgs,e1] at hmk;have HG:=Mw hG;have H1:=Mw h1;have H3:=Mw h3;have HN:=Mw hn;have HX:=Mw hx;have HF:=Mw F;have HP:=Mw hP;have HC:=Mw hc;have H0:=Mw h0;have HM:=Mw hm;have H4:=Mw h4;clear hw1 hgs e1 hG h1 h3 hn hx F hP hc h0 hm h4
 go_enter Tryz.func193,Tryz.ntmps193
 go_wp2_with fail
 go_loopw [10] (fun v wr=>∃ i:Nat,v=.int .i64 (i:Int)/\i<=n/\Aside0 (Below w.heap.size w wr)/\Aside0 (ag wr gs (eE m p c xs (n+d) i))) (fun v _=>(n-intOf v).toNat)
 case atStart=>exact⟨0,rfl,Nat.zero_le _,HB1,HZ1⟩
 case round=>
  clear HB1 HZ1 hmk c0 c1;obtain⟨i,rfl,hi,HB,HZ⟩:=hrel;have c0:wr.cell? ⟨q,0,none⟩=some (.pointer (some ⟨gf,0,none⟩)):=(H1.out.below HB.out H1.out.lt).cell 0;have c1:wr.cell? ⟨q,1,none⟩=some (.slice (some ⟨g,o,none⟩) n cx):=by
   have h:=(H1.out.below HB.out H1.out.lt).cell 1;rw [HN.out] at h;exact h
  by_cases hin:i<n;rotate_left
  ·have hie:i=n:=by omega
   subst hie;have hfl:eE m p c xs (i+d) i=xs.map (fun x=>gm m p x c)++Mx d 0:=by unfold eE;rw [List.take_of_length_le (by rw [HN.out];exact My _),Nat.add_sub_cancel_left]
   have hlen:(xs.map (fun x=>gm m p x c)++Mx d 0).length=i+d:=by simp [HN.out]
   have hZf:=HZ.out;rw [hfl] at hZf;have kp:=j8 wr gf gs 0 (i+d) _ (b6.whole hZf) (by rw [hlen];exact My _) (by intro h;rw [h] at hlen;have:i=0:=(by have h3:=congrArg id hlen;simp at h3;omega);exact H4.out (List.eq_nil_of_length_eq_zero (by rw [HN.out,this]))) (by rw [hlen];omega)
   rw [hlen] at kp;have e1:((i+d:Nat):Int)=(i:Int)+(d:Int):=by omega
   have HPM:=Mw (show fK m p d c xs=bJ (xs.map (fun x=>gm m p x c)++Mx d 0) by unfold fK;rw [if_neg H0.out])
   clear hfl hlen hZf e1
   go_wp2_with fail
   refine kp.mono ?_;rintro e w3 ⟨qn,rfl,_,hq,hb3⟩;have HQ:=Mw hq;have HB3:=Mw (HB.out.trans (hb3.mono HB.out.size));clear hq hb3 kp
   go_wp2_with fail
   go_ret2
   exact⟨qn,rfl,by rw [HPM.out];exact HQ.out,HB3.out⟩
  have hx0:=(H3.out.below HB.out H3.out.lt).at_ i (by rw [HN.out];exact hin)
  obtain⟨x,hxx⟩:∃ x,xs.getD i 0=x:=⟨_,rfl⟩;rw [hxx] at hx0;have HXX:=Mw hxx;have k1:=fun k=>lw (wr.drewN k) gf m p b x c HF.out HP.out HM.out ((HG.out.below HB.out (My _)).drawn k) (by rw [<- hxx];exact aF HX.out i) HC.out
  have z1:wr.cell? ⟨gs,i,none⟩=some (.int .i64 0):=by
   have:=HZ.out.cell i (by rw [wZ m p c (n+d) i xs (by rw [HN.out];omega) (by rw [HN.out];omega)];omega)
   rw [xd m p c (n+d) i xs (by rw [HN.out];exact hin) (by rw [HN.out];omega)] at this
   exact this
  have z2:wr.frozen? ⟨gs,i,none⟩=false:=Blk.frozen HZ.out _;obtain⟨y,hy⟩:∃ y,gm m p x c=y:=⟨_,rfl⟩;rw [hy] at k1;have HZ2:=Mw (fun k=>show ag ((wr.drewN k).setCell ⟨gs,i,none⟩ (.int .i64 (y:Int))) gs (eE m p c xs (n+d) (i+1)) by
   have:=(show ag (wr.drewN k) gs (eE m p c xs (n+d) i) from Blk.below HZ.out (au (Below.refl wr.heap.size wr) k) (Blk.lt HZ.out)).set i y;rw [<- hy,<- HXX.out,wY m p c (n+d) i xs (by rw [HN.out];exact hin) (by rw [HN.out];omega),HXX.out,hy] at this
   exact this)
  have HBZ:=Mw (fun k=>(show Below w.heap.size w ((wr.drewN k).setCell ⟨gs,i,none⟩ (.int .i64 (y:Int))) from Below.setc (au HB.out k) (by rw [HGS.out];exact My _) _))
  clear hy hxx
  go_wp2
  have k2:Calls Tryz.prog 186 #[.pointer (some ⟨gf,0,none⟩),.int .i64 (x:Int),.int .i64 (c:Int)] wr.drew fun e w'=>e=.returned (.int .i64 (y:Int))/\∃ k,w'=wr.drewN k:=by
   refine (k1 1).mono ?_;rintro e w' ⟨h1,mm,h2⟩;exact⟨h1,1+mm,by rw [h2,World.drewN_drewN]⟩
  clear k1;have hnd:i<n+d:=by omega
  go_region_with (go_at_call 186;with_reducible (refine k2.mono ?_);rintro e w2 ⟨rfl,k,rfl⟩)
  all_goals
   clear k2
   go_wp2
   go_roundw
   case rel=>exact⟨i+1,by go_num,by omega,⟨HBZ.out _⟩,⟨HZ2.out _⟩⟩
   case measure=>simp [intOf];omega
end Go.Proofs.YtgccjgpdjkhpdaaGreat.B
