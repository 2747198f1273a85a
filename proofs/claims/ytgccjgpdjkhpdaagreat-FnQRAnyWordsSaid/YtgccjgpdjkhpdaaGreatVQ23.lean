import Derived.Test.YtgccjgpdjkhpdaaGreatVQ22
/-! Own texts of this claim, part 23. -/
namespace Go.Proofs.YtgccjgpdjkhpdaaGreat.B
open Go.RowKit Go.Proofs.YtgccjgpdjkhpdaaGreatW.PrintWords Go.Proofs.YtgccjgpdjkhpdaaGreatW.PrintLast Go.Proofs.YtgccjgpdjkhpdaaGreatW.PrintMore
set_option linter.unusedVariables false
set_option linter.unusedSimpArgs false
def grp (c d c2:Nat):List (Int×Int):=if c2=0 then [((c:Int),(d:Int))] else [((c:Int),(d:Int)),((c2:Int),((d+1:Nat):Int))]
def grpN (c2:Nat):Nat:=if c2=0 then 1 else 2
def grpC (c c2 i:Nat):Nat:=if i=0 then c else c2
def grpS (c c2 i:Nat):Nat:=if i=0 then 0 else if i=1 then c else c+c2
theorem grp_len (c d c2:Nat):(grp c d c2).length=grpN c2:=by unfold grp grpN;split<;>rfl
theorem grp_at (c d c2 i:Nat)(hi:i<grpN c2):(grp c d c2).getD i (0,0)=((grpC c c2 i:Int),((d+i:Nat):Int)):=by
 unfold grpN at hi
 unfold grp
 split at hi
 ·rename_i h
  rw [if_pos h]
  match i,hi with
  | 0,_=>rfl
 ·rename_i h
  rw [if_neg h]
  match i,hi with
  | 0,_=>rfl
  | 1,_=>rfl
theorem grpS_succ (c c2 i:Nat)(hi:i<grpN c2):grpS c c2 (i+1)=grpS c c2 i+grpC c c2 i:=by
 unfold grpN at hi
 unfold grpS grpC
 split at hi
 ·match i,hi with
  | 0,_=>simp
 ·match i,hi with
  | 0,_=>simp
  | 1,_=>simp
theorem grpS_end (c c2:Nat):grpS c c2 (grpN c2)=c+c2:=by
 unfold grpN grpS
 split
 ·rename_i h;simp [h]
 ·simp
theorem grpS_le (c c2 i:Nat):grpS c c2 i<=c+c2:=by unfold grpS;split;omega;split<;>omega
theorem grp_dl (c d c2 i t:Nat)(hi:i<grpN c2)(ht:t<grpC c c2 i):dl c d (grpS c c2 i+t)=d+i:=by
 unfold grpN at hi
 unfold grpC at ht
 unfold dl grpS
 split at hi
 ·match i,hi with
  | 0,_=>simp at ht ⊢;omega
 ·match i,hi with
  | 0,_=>simp at ht ⊢;omega
  | 1,_=>simp
theorem Below.setc {w0 w:World}{B:Nat}(h:Below B w0 w){g i:Nat}(hg:B<=g)(u:Value):Below B w0 (w.setCell ⟨g,i,none⟩ u) :=
 ⟨h.os,h.tape,h.output,by simpa using h.size,fun k hk=>(Below.heap_setCell w _ u k (by show k≠g;omega)).trans (h.block k hk)⟩
theorem Dbs.grow {w:World}{g B k n m di:Nat}{p q d:Nat->Nat}{cw:Nat->List Nat}(h:Dbs w g B k n p q d cw)(hk:k<n)(hB:B<=w.heap.size)(hd:d k=di)(hc:cw k=List.replicate m 0)(o o2:Obj) :
  Dbs (((((w.alloc o).alloc o2).alloc (.cells (nums .u8 (ints (List.replicate m 0))).toArray 5)).alloc (.cells #[.int .i64 (di:Int),.slice (some ⟨w.heap.size+1+1,0,none⟩) m m] 270)).setCell ⟨g,k,none⟩ (.pointer (some ⟨w.heap.size+1+1+1,0,none⟩)))
   g B (k+1) n (upd1 p k (w.heap.size+1+1+1)) (upd1 q k (w.heap.size+1+1)) d cw:=by
 have h2:Dbs ((w.alloc o).alloc o2) g B k n p q d cw:=h.below (below_alloc (below_alloc (Below.refl _ _) _) _) (Nat.le_refl _)
 have hs:((w.alloc o).alloc o2).heap.size=w.heap.size+1+1:=by simp
 have:=h2.add hk (by rw [hs];omega)
 rw [hs,hd,hc,List.length_replicate] at this
 exact this
theorem Dbs.facts {w:World}{g B n c d c2 e off j x:Nat}{p q:Nat->Nat}{ws:List Nat}(h:Dbs w g B n n p q (dl c d) (fill c d c2 e ws off))(hj:j<n)(hx:x<dl c d j+e) :
  w.cell? ⟨g,j,none⟩=some (.pointer (some ⟨p j,0,none⟩))/\w.cell? ⟨p j,1,none⟩=some (.slice (some ⟨q j,0,none⟩) (dl c d j+e) (dl c d j+e))/\(∃ old:Nat,w.cell? ⟨q j,x,none⟩=some (.int .u8 (old:Int)))/\w.frozen? ⟨q j,x,none⟩=false:=by
 refine⟨h.ptr hj hj,?_,⟨_,UBlk.cell (h.word j hj) x (by rw [fill_len];exact hx)⟩,Blk.frozen (h.word j hj) x⟩
 have:=(h.blk j hj).cell 1
 rw [fill_len] at this
 exact this
theorem Dbs.step {w:World}{g B n c d c2 e off j x v:Nat}{p q:Nat->Nat}{ws:List Nat}(h:Dbs w g B n n p q (dl c d) (fill c d c2 e ws off))(hn:c+c2=n)(hj:j<n)(hpos:posOf c d c2 j x=off)(hv:ws.getD off 0=v) :
  Dbs (w.drew.setCell ⟨q j,x,none⟩ (.int .u8 (v:Int))) g B n n p q (dl c d) (fill c d c2 e ws (off+1)):=by
 subst hn
 refine (h.below (below_drew1 (Below.refl w.heap.size w)) (Nat.le_refl _)).set hj ?_ fun i hi hij=>fill_other ws hj hi hpos hij
 rw [<- hv]
 exact fill_set ws hj hpos
theorem fill_full (c d c2 e:Nat)(ws:List Nat){w:World}{g B n:Nat}{p q:Nat->Nat}(hn:c+c2=n)(h:Dbs w g B n n p q (dl c d) (fill c d c2 e ws (d*n+c2+e*n))):Dbs w g B n n p q (dl c d) (blockWords c d c2 e ws):=by
 subst hn
 refine⟨h.row,fun i hi=>?_,fun i hi=>?_,h.fresh,h.inj⟩
 ·have:=h.blk i hi
  rw [fill_all ws hi] at this
  exact this
 ·have:=h.word i hi
  rw [fill_all ws hi] at this
  exact this
def Blocks (w:World)(c d c2 e:Nat)(ws:List Nat)(en:Ending)(w':World):Prop:=∃ g p q,en=.returned (.tuple #[.slice (some ⟨g,0,none⟩) (c+c2) (c+c2),.nilIface])/\w.heap.size<=g/\
 Dbs w' g w.heap.size (c+c2) (c+c2) p q (dl c d) (blockWords c d c2 e ws)/\Below w.heap.size w w'
set_option maxHeartbeats 8000000 in
set_option maxRecDepth 20000 in
theorem dataBlocks (w:World)(pv v l gw:Nat)(ws:List Nat)(hV:VerAt w pv (v:Int) (verRow v))(hv:1<=v/\v<=40)(hl:l<4)(hW:UBlk w gw ws)(hn:ws.length=roomN v/8) :
  Calls Tryz.prog 162 #[.slice (some ⟨gw,0,none⟩) (roomN v/8) (roomN v/8),.pointer (some ⟨pv,0,none⟩),.int .i64 (l:Int)] w (Blocks w (lvC v l) (lvD v l) (lvC2 v l) (lvE v l) ws):=by
 obtain⟨hT,hR⟩:=tot_row v hv
 have LY:=lay_at v l hv hl
 obtain⟨e,he⟩:∃ e,lvE v l=e:=⟨_,rfl⟩
 obtain⟨c,hc⟩:∃ c,lvC v l=c:=⟨_,rfl⟩
 obtain⟨d,hd⟩:∃ d,lvD v l=d:=⟨_,rfl⟩
 obtain⟨c2,hc2⟩:∃ c2,lvC2 v l=c2:=⟨_,rfl⟩
 rw [he,hc,hd,hc2] at LY ⊢
 obtain⟨T,hTd⟩:∃ T,roomN v/8=T:=⟨_,rfl⟩
 have hTl:T<=5000:=by omega
 obtain⟨lr,e1,e2,q1,q2,q3,q4,ltot⟩:=LY
 rw [hTd] at hT hn ltot ⊢
 have hlr:lvOf v l=((e:Int),grp c d c2):=lr
 have HV:=Aside0.mk hV
 have HW:=Aside0.mk hW
 have HN:=Aside0.mk hn
 have HT:=Aside0.mk hT
 have HTT:=Aside0.mk ltot
 have k93:=verTotal w pv v T _ hV hT
 have k170:=ecLevel w pv v l hV hv hl
 rw [hlr] at k170
 clear lr hlr he hc hd hc2 hTd hV hW hn ltot hT hR hv
 go_enter Tryz.func162,Tryz.ntmps162
 go_wp2_with (first | (go_at_call 93;refine k93.mono ?_;rintro e w' ⟨rfl,rfl⟩) | (go_at_call 170;refine k170.mono ?_;rintro e w' ⟨⟨ge,o,rfl,hL⟩,rfl⟩))
 clear k93 k170
 obtain⟨g,⟨es,hb1,hes1,hes2⟩,hb2⟩:=hL
 have cE:w.cell? ⟨ge,o,none⟩=some (.int .i64 (e:Int)):=(hb1.cell o).trans hes1
 have cL:w.cell? ⟨ge,o+1,none⟩=some (.slice (some ⟨g,0,none⟩) (grpN c2) (grpN c2)):=by rw [<- grp_len c d c2];exact (hb1.cell _).trans hes2
 have HES:=Aside0.mk (And.intro hb1 hes1)
 have HG:=Aside0.mk hb2
 clear hb1 hes1 hes2 hb2
 refine (ecbs_listO w ge o _ cL).mono ?_
 rintro e' w' ⟨rfl,rfl⟩
 clear cE cL
 obtain⟨m,hm⟩:∃ m,grpN c2=m:=⟨_,rfl⟩
 rw [hm]
 have hm2:1<=m/\m<=2:=by rw [<- hm];unfold grpN;split<;>omega
 obtain⟨hm1,hm2⟩:=hm2
 have HM:=Aside0.mk hm
 clear hm
 go_wp2
 go_loopw [9,45] (fun tv v wr=>∃ i t:Nat,i<=m/\v=.int .i64 (i:Int)/\tv=.int .i64 (t:Int)/\t<=100/\Aside0 (t=grpS c c2 i)/\Aside0 (Below w.heap.size w wr)) (fun _ v _=>(m-intOf v).toNat)
 case atStart=>exact⟨0,0,Nat.zero_le _,rfl,rfl,by omega,⟨rfl⟩,⟨Below.refl _ _⟩⟩
 case round=>
  obtain⟨i,t,hi,rfl,rfl,ht,HTS,HB⟩:=hrel
  by_cases hlt:i<m
  ·have hgr:Blk wr g 221 (ecbCells (grp c d c2)).toArray:=HG.out.below HB.out HG.out.lt
   have hat:=ecbCells_at (grp c d c2) i (by rw [grp_len,HM.out];exact hlt)
   rw [grp_at c d c2 i (by rw [HM.out];exact hlt)] at hat
   obtain⟨x,hx⟩:∃ x,grpC c c2 i=x:=⟨_,rfl⟩
   have hx1:x<=100:=by rw [<- hx];unfold grpC;split<;>omega
   have hsum:t+x=grpS c c2 (i+1):=by rw [grpS_succ c c2 i (by rw [HM.out];exact hlt),HTS.out,hx]
   have hs100:t+x<=100:=by rw [hsum];have:=grpS_le c c2 (i+1);omega
   rw [hx] at hat
   have d0:wr.cell? ⟨g,i*2,none⟩=some (.int .i64 (x:Int)):=(hgr.cell _).trans (by have:=hat.1;rw [Nat.mul_comm] at this;simpa using this)
   have d1:wr.cell? ⟨g,i*2+1,none⟩=some (.int .i64 ((d+i:Nat):Int)):=(hgr.cell _).trans (by have:=hat.2;rw [Nat.mul_comm] at this;simpa using this)
   have HSUM:=Aside0.mk hsum
   clear hx hat hgr hsum
   go_wp2_with (go_at_call 160;refine (ecb_count' _ (x:Int) ((d+i:Nat):Int)).mono ?_;rintro e w' ⟨rfl,rfl⟩)
   go_roundw
   case rel=>exact⟨i+1,t+x,by omega,by go_num,by go_num,by omega,HSUM,⟨by repeat (first | exact HB.out | apply below_alloc | apply pw_below_drewN | apply below_drew1)⟩⟩
   case measure=>simp [intOf];omega
  ·have:m=i:=by omega
   subst this
   rw [HM.out.symm] at HTS
   have mkb:=make_blocks t (by omega)
   go_wp2
   clear mkb
   rw [HM.out] at HTS
   obtain⟨n,hn⟩:∃ n,c+c2=n:=⟨_,rfl⟩
   have htn:n=t:=by rw [<- hn,<- grpS_end c c2,HM.out,HTS.out]
   subst htn
   obtain⟨w1,hw1⟩:∃ w1,w1=wr.alloc (.cells (ptrRow 0 n (fun _=>0)).toArray 257):=⟨_,rfl⟩
   rw [<- hw1]
   obtain⟨gR,hgR⟩:∃ gR,gR=wr.heap.size:=⟨_,rfl⟩
   rw [<- hgR]
   have hbl1:Below w.heap.size w w1:=by rw [hw1];exact below_alloc HB.out _
   have HRW:=Aside0.mk (show Blk w1 gR 257 (ptrRow 0 n (fun _=>0)).toArray by rw [hw1,hgR];exact Blk.new _ _ _)
   have HB1:=Aside0.mk hbl1
   have hgb:w.heap.size<=gR:=by rw [hgR];exact HB.out.size
   have HGB:=Aside0.mk hgb
   have HNN:=Aside0.mk hn
   have hn100:n<=100:=by omega
   have HD0:=Aside0.mk (show Dbs w1 gR w.heap.size 0 n (fun _=>0) (fun _=>0) (dl c d) (fill c d c2 e ws 0) from ⟨HRW.out,fun i hi=>absurd hi (by omega),fun i hi=>absurd hi (by omega),fun i hi=>absurd hi (by omega),fun i j hi=>absurd hi (by omega)⟩)
   clear hw1 hgR hbl1 HB HTS hi ht hlt hgb hn HRW
   go_loopw [14,58] (fun tv v wr=>∃ (i t:Nat) (p q:Nat->Nat),i<=m/\v=.int .i64 (i:Int)/\tv=.int .i64 (t:Int)/\t<=100/\Aside0 (t=grpS c c2 i)/\Aside0 (Below w.heap.size w wr)/\Aside0 (Dbs wr gR w.heap.size t n p q (dl c d) (fill c d c2 e ws 0))) (fun _ v _=>(m-intOf v).toNat)
   case atStart=>exact⟨0,0,_,_,Nat.zero_le _,rfl,rfl,by omega,⟨rfl⟩,HB1,HD0⟩
   case round=>
    obtain⟨i,t,p,q,hi,rfl,rfl,ht,HTS,HB,HD⟩:=hrel
    by_cases hlt:i<m
    ·have hgr:Blk wr g 221 (ecbCells (grp c d c2)).toArray:=HG.out.below HB.out HG.out.lt
     have hat:=ecbCells_at (grp c d c2) i (by rw [grp_len,HM.out];exact hlt)
     rw [grp_at c d c2 i (by rw [HM.out];exact hlt)] at hat
     obtain⟨x,hx⟩:∃ x,grpC c c2 i=x:=⟨_,rfl⟩
     have hx1:x<=100:=by rw [<- hx];unfold grpC;split<;>omega
     have hsum:t+x=grpS c c2 (i+1):=by rw [grpS_succ c c2 i (by rw [HM.out];exact hlt),HTS.out,hx]
     have hs100:t+x<=n:=by rw [hsum];have:=grpS_le c c2 (i+1);have:=HNN.out;omega
     rw [hx] at hat
     have d0:wr.cell? ⟨g,i*2,none⟩=some (.int .i64 (x:Int)):=(hgr.cell _).trans (by have:=hat.1;rw [Nat.mul_comm] at this;simpa using this)
     have d1:wr.cell? ⟨g,i*2+1,none⟩=some (.int .i64 ((d+i:Nat):Int)):=(hgr.cell _).trans (by have:=hat.2;rw [Nat.mul_comm] at this;simpa using this)
     obtain⟨di,hdi⟩:∃ di,d+i=di:=⟨_,rfl⟩
     rw [hdi] at d1
     have hdi1:di<=300:=by omega
     have hdl:∀ s,s<x->dl c d (t+s)=di:=fun s hs=>by rw [HTS.out,<- hdi];exact grp_dl c d c2 i s (by rw [HM.out];exact hlt) (by rw [hx];exact hs)
     have HDL:=Aside0.mk hdl
     have HSUM:=Aside0.mk hsum
     clear hx hat hgr hsum hdl hdi
     go_wp2
     obtain⟨w2,hw2⟩:∃ w2,w2=wr.alloc (.cells #[.int .i64 (x:Int),.int .i64 (di:Int)] 221):=⟨_,rfl⟩
     rw [<- hw2]
     obtain⟨gE,hgE⟩:∃ gE,gE=wr.heap.size:=⟨_,rfl⟩
     rw [<- hgE]
     have HB2:=Aside0.mk (show Below w.heap.size w w2 by rw [hw2];exact below_alloc HB.out _)
     have HE2:=Aside0.mk (show Blk w2 gE 221 #[.int .i64 (x:Int),.int .i64 (di:Int)] by rw [hw2,hgE];exact Blk.new _ _ _)
     have HD2:=Aside0.mk (show Dbs w2 gR w.heap.size t n p q (dl c d) (fill c d c2 e ws 0) by rw [hw2];exact HD.out.below (below_alloc (Below.refl _ _) _) (Nat.le_refl _))
     clear hw2 hgE d0 d1
     go_loopw [14,17] (fun tv v wr=>∃ (s:Nat) (p q:Nat->Nat),s<=x/\v=.int .i64 (s:Int)/\tv=.int .i64 ((t+s:Nat):Int)/\Aside0 (Below w.heap.size w wr)/\Aside0 (Blk wr gE 221 #[.int .i64 (x:Int),.int .i64 (di:Int)])/\Aside0 (Dbs wr gR w.heap.size (t+s) n p q (dl c d) (fill c d c2 e ws 0))) (fun _ v _=>(x-intOf v).toNat)
     case atStart=>exact⟨0,p,q,Nat.zero_le _,rfl,rfl,HB2,HE2,HD2⟩
     case round=>
      clear HB2 HE2 HD2 HD HB
      obtain⟨s,p,q,hs,rfl,rfl,HB,HE,HD⟩:=hrel
      have d0:wr.cell? ⟨gE,0,none⟩=some (.int .i64 (x:Int)):=HE.out.cell 0
      have d1:wr.cell? ⟨gE,1,none⟩=some (.int .i64 (di:Int)):=HE.out.cell 1
      have b0:∀ o,(wr.alloc o).cell? ⟨gE,0,none⟩=some (.int .i64 (x:Int)):=fun o=>(HE.out.alloc o).cell 0
      have b1:∀ o,(wr.alloc o).cell? ⟨gE,1,none⟩=some (.int .i64 (di:Int)):=fun o=>(HE.out.alloc o).cell 1
      by_cases hsx:s<x
      ·have mk8:∀ W,(Instr.makeSlice 26 (.int .i64 ((e:Int)+(di:Int))) (.int .i64 ((e:Int)+(di:Int)))).run Tryz.prog W=.ok (.slice (some ⟨W.heap.size,0,none⟩) (e+di) (e+di)) (W.alloc (.cells (nums .u8 (ints (List.replicate (e+di) 0))).toArray 5)):=fun W=>by
        have:=make_u8 (e+di) (by omega) W
        rw [show ((e+di:Nat):Int)=(e:Int)+(di:Int) by omega] at this
        exact this
       have hkn:t+s<n:=by omega
       have f0:∀ o o2 o3 o4,((((wr.alloc o).alloc o2).alloc o3).alloc o4).frozen? ⟨gR,t+s,none⟩=false:=fun o o2 o3 o4=>Blk.frozen ((((HD.out.row.alloc o).alloc o2).alloc o3).alloc o4) _
       have hold:(ptrRow (t+s) n p).toArray[t+s]? = some (.pointer none):=by simp [ptrRow,hkn,ptrAt]
       have f1:∀ o o2 o3 o4,((((wr.alloc o).alloc o2).alloc o3).alloc o4).cell? ⟨gR,t+s,none⟩=some (.pointer none):=fun o o2 o3 o4=>(Blk.cell ((((HD.out.row.alloc o).alloc o2).alloc o3).alloc o4) _).trans hold
       clear hold
       have hbE:Blk wr ge 224 es:=HES.out.1.below HB.out HES.out.1.lt
       go_wp2_with (first | (go_at_call 160;refine (ecb_count' _ (x:Int) (di:Int)).mono ?_;rintro e w' ⟨rfl,rfl⟩) | (go_at_call 161;refine (ecb_words' _ (x:Int) (di:Int)).mono ?_;rintro e w' ⟨rfl,rfl⟩) | (go_at_call 158;refine (ecbs_perO _ ge o (e:Int) (Eq.trans (Blk.cell (by repeat (first | exact hbE | apply Blk.alloc)) o) HES.out.2)).mono ?_;rintro e w' ⟨rfl,rfl⟩) | (go_at_call 171;refine (newDB _ (di:Int) _ _).mono ?_;rintro e w' ⟨rfl,rfl⟩))
       go_roundw
       have hgE:gE≠gR:=blk_ne HE.out HD.out.row (by decide)
       have hE4:∀ o o2 o3 o4 (u:Value),Blk (((((wr.alloc o).alloc o2).alloc o3).alloc o4).setCell ⟨gR,t+s,none⟩ u) gE 221 #[.int .i64 (x:Int),.int .i64 (di:Int)]:=fun o o2 o3 o4 u=>Blk.far (p:=⟨gR,t+s,none⟩) ((((HE.out.alloc o).alloc o2).alloc o3).alloc o4) hgE u
       have hB4:∀ o o2 o3 o4 (u:Value),Below w.heap.size w (((((wr.alloc o).alloc o2).alloc o3).alloc o4).setCell ⟨gR,t+s,none⟩ u):=fun o o2 o3 o4 u=>Below.setc (below_alloc (below_alloc (below_alloc (below_alloc HB.out _) _) _) _) HGB.out u
       have hlen:fill c d c2 e ws 0 (t+s)=List.replicate (e+di) 0:=by rw [fill_zero,HDL.out s hsx,Nat.add_comm]
       have hD4:=fun o o2=>HD.out.grow hkn HB.out.size (HDL.out s hsx) hlen o o2
       case rel=>exact⟨s+1,_,_,by omega,by go_num,by go_num,⟨hB4 _ _ _ _ _⟩,⟨hE4 _ _ _ _ _⟩,⟨hD4 _ _⟩⟩
       case measure=>simp [intOf];omega
      ·have:s=x:=by omega
       subst this
       go_wp2_with (go_at_call 160;refine (ecb_count' _ (s:Int) (di:Int)).mono ?_;rintro e w' ⟨rfl,rfl⟩)
       go_roundw
       case rel=>exact⟨i+1,t+s,p,q,by omega,by go_num,rfl,by omega,HSUM,⟨below_alloc HB.out _⟩,⟨HD.out.below (below_alloc (Below.refl _ _) _) (Nat.le_refl _)⟩⟩
       case measure=>simp [intOf];omega
    ·have:m=i:=by omega
     subst this
     have hbE:Blk wr ge 224 es:=HES.out.1.below HB.out HES.out.1.lt
     have cE:wr.cell? ⟨ge,o,none⟩=some (.int .i64 (e:Int)):=(hbE.cell o).trans HES.out.2
     have htn:n=t:=by rw [HTS.out,<- HM.out,grpS_end,HNN.out]
     subst htn
     have hn1:1<=n:=by have:=HNN.out;omega
     obtain⟨r0,r1,-⟩:=HD.out.facts (j:=0) (x:=0) (by omega) (by omega)
     have hdl0:dl c d 0=d:=by unfold dl;rw [if_pos (by omega)]
     rw [hdl0] at r1
     have hcn:c<=n:=by have:=HNN.out;omega
     have HCE:=Aside0.mk cE
     go_wp2
     clear r0 r1 hdl0 hbE cE
     obtain⟨wo,hwo⟩:∃ wo,wo=wr:=⟨_,rfl⟩
     rw [<- hwo] at HB HD HCE ⊢
     clear hwo
     go_loopw [21] (fun v wr=>∃ j:Nat,v=.int .i64 (j:Int)/\j<n/\c<=j+1/\wr=wo) (fun v _=>(intOf v).toNat)
     case atStart=>exact⟨n-1,by go_num,by omega,by omega,by first | rfl | trivial⟩
     case round=>
      obtain⟨j,rfl,hj1,hj2,rfl⟩:=hrel
      obtain⟨r0,r1,-⟩:=HD.out.facts (j:=j) (x:=0) hj1 (by omega)
      by_cases hjc:c<=j
      ·have hdlj:dl c d j=d+1:=by unfold dl;rw [if_neg (by omega)]
       rw [hdlj] at r1
       go_wp2
       go_roundw
       case rel=>exact⟨j-1,by go_num,by omega,by omega,by first | rfl | trivial⟩
       case measure=>simp [intOf];omega
      ·have hdlj:dl c d j=d:=by unfold dl;rw [if_pos (by omega)]
       rw [hdlj] at r1
       have hjc1:(j:Int)+1=(c:Int):=by omega
       have cE:=HCE.out
       have kE:=ecbs_perO wr ge o (e:Int) cE
       go_wp2_with (go_at_call 158;refine kE.mono ?_;rintro e' w' ⟨rfl,rfl⟩)
       clear r0 r1 hdlj cE kE hjc1 hjc hj1 hj2
       have HCC:=HNN
       obtain⟨P1,hP1⟩:∃ P1,d*n=P1:=⟨_,rfl⟩
       obtain⟨P2,hP2⟩:∃ P2,e*n=P2:=⟨_,rfl⟩
       have hPT:P1+c2+P2=T:=by have:=HTT.out;rw [HNN.out,hP1,hP2] at this;exact this
       have HP1:=Aside0.mk hP1
       have HP2:=Aside0.mk hP2
       have hcc:c+c2=n:=HNN.out
       have h4:∀ i j,i<d->j<n->i*n+j<P1:=fun i j hi hj=>by rw [<- HP1.out];exact mulAdd_lt hj hi
       have H4:=Aside0.mk h4
       have h6:∀ i j,i<e->j<n->i*n+j<P2:=fun i j hi hj=>by rw [<- HP2.out];exact mulAdd_lt hj hi
       have H6:=Aside0.mk h6
       clear hP1 hP2 h4 h6 HCE
       go_loopw [24,25] (fun vo vi wr=>∃ i off:Nat,vi=.int .i64 (i:Int)/\vo=.int .i64 (off:Int)/\i<=d/\off<=T/\Aside0 (off=i*n)/\Aside0 (Below w.heap.size w wr)/\Aside0 (Dbs wr gR w.heap.size n n p q (dl c d) (fill c d c2 e ws off))) (fun _ vi _=>(d-intOf vi).toNat)
       case atStart=>exact⟨0,0,rfl,rfl,by omega,by omega,⟨by simp⟩,HB,HD⟩
       case round=>
        clear HB HD
        obtain⟨i,off,rfl,rfl,hi,hoff,HO,HB,HD⟩:=hrel
        by_cases hid:i<d
        ·go_wp2
         obtain⟨w4,hw4⟩:∃ w4,w4=wr:=⟨_,rfl⟩
         rw [<- hw4] at HB HD ⊢
         clear hw4
         have HO1:=HO
         go_loopw [24,26] (fun vo vj wr=>∃ j off:Nat,vj=.int .i64 (j:Int)/\vo=.int .i64 (off:Int)/\j<=n/\off<=T/\Aside0 (off=i*n+j)/\Aside0 (Below w.heap.size w wr)/\Aside0 (Dbs wr gR w.heap.size n n p q (dl c d) (fill c d c2 e ws off))) (fun _ vj _=>(n-intOf vj).toNat)
         case atStart=>exact⟨0,off,rfl,rfl,by omega,by omega,HO1,HB,HD⟩
         case round=>
          clear HB HD
          obtain⟨j,off,rfl,rfl,hj,hoff,HO,HB,HD⟩:=hrel
          by_cases hjn:j<n
          ·have hoP:off<P1:=by rw [HO.out];exact H4.out i j hid hjn
           have hoT:off<T:=by omega
           have hpos:posOf c d c2 j i=off:=by unfold posOf;rw [if_pos hid,HNN.out,HO.out]
           have hfit:i<dl c d j+e:=by unfold dl;split<;>omega
           obtain⟨r0,r1,⟨old,r2⟩,r3⟩:=HD.out.facts (j:=j) (x:=i) hjn hfit
           obtain⟨L,hL⟩:∃ L,dl c d j+e=L:=⟨_,rfl⟩
           have hxL:i<L:=by rw [<- hL];exact hfit
           rw [hL] at r1
           obtain⟨vv,hvv⟩:∃ vv,ws.getD off 0=vv:=⟨_,rfl⟩
           have r4:wr.cell? ⟨gw,off,none⟩=some (.int .u8 (vv:Int)):=by
            have:=UBlk.cell (Blk.below HW.out HB.out (Blk.lt HW.out)) off (by rw [HN.out];exact hoT)
            rw [hvv] at this
            exact this
           have HD2:=Aside0.mk (HD.out.step HNN.out hjn hpos hvv)
           have HB2:=Aside0.mk (Below.setc (below_drew1 HB.out) (HD.out.fresh j hjn) (i:=i) (.int .u8 (vv:Int)))
           clear hL hvv hpos
           go_wp2
           apply held
           case r=>
            intro REST
            go_region
            all_goals exact REST
           go_wp2
           clear r0 r1 r2 r3 r4
           go_roundw
           case rel=>exact⟨j+1,off+1,by go_num,by go_num,by omega,by omega,⟨by rw [HO.out,Nat.add_assoc]⟩,HB2,HD2⟩
           case measure=>simp [intOf];omega
          ·have:n=j:=by omega
           subst this
           go_wp2
           go_roundw
           case rel=>exact⟨i+1,off,by go_num,rfl,by omega,by omega,⟨by rw [HO.out,Nat.add_mul,Nat.one_mul]⟩,HB,HD⟩
           case measure=>simp [intOf];omega
        ·have:d=i:=by omega
         subst this
         go_wp2
         obtain⟨w4,hw4⟩:∃ w4,w4=wr:=⟨_,rfl⟩
         rw [<- hw4] at HB HD ⊢
         clear hw4
         have HO1:=HO
         go_loopw [24,27] (fun vo vj wr=>∃ j off:Nat,vj=.int .i64 (j:Int)/\vo=.int .i64 (off:Int)/\c<=j/\j<=n/\off<=T/\Aside0 (off=P1+(j-c))/\Aside0 (Below w.heap.size w wr)/\Aside0 (Dbs wr gR w.heap.size n n p q (dl c d) (fill c d c2 e ws off))) (fun _ vj _=>(n-intOf vj).toNat)
         case atStart=>exact⟨c,off,rfl,rfl,by omega,by omega,by omega,⟨by rw [HO1.out,HP1.out];omega⟩,HB,HD⟩
         case round=>
          clear HB HD
          obtain⟨j,off,rfl,rfl,hcj,hj,hoff,HO,HB,HD⟩:=hrel
          by_cases hjn:j<n
          ·have hdl:dl c d j=d+1:=by unfold dl;rw [if_neg (by omega)]
           have hoT:off<T:=by have:=HO.out;omega
           have hpos:posOf c d c2 j d=off:=by unfold posOf;rw [if_neg (by omega),hdl,if_pos (by omega),HNN.out,HP1.out,HO.out]
           have hfit:d<dl c d j+e:=by rw [hdl];omega
           clear hdl
           obtain⟨r0,r1,⟨old,r2⟩,r3⟩:=HD.out.facts (j:=j) (x:=d) hjn hfit
           obtain⟨L,hL⟩:∃ L,dl c d j+e=L:=⟨_,rfl⟩
           have hxL:d<L:=by rw [<- hL];exact hfit
           rw [hL] at r1
           obtain⟨vv,hvv⟩:∃ vv,ws.getD off 0=vv:=⟨_,rfl⟩
           have r4:wr.cell? ⟨gw,off,none⟩=some (.int .u8 (vv:Int)):=by
            have:=UBlk.cell (Blk.below HW.out HB.out (Blk.lt HW.out)) off (by rw [HN.out];exact hoT)
            rw [hvv] at this
            exact this
           have HD2:=Aside0.mk (HD.out.step HNN.out hjn hpos hvv)
           have HB2:=Aside0.mk (Below.setc (below_drew1 HB.out) (HD.out.fresh j hjn) (i:=d) (.int .u8 (vv:Int)))
           clear hL hvv hpos
           go_wp2
           apply held
           case r=>
            intro REST
            go_region
            all_goals exact REST
           go_wp2
           clear r0 r1 r2 r3 r4
           go_roundw
           case rel=>exact⟨j+1,off+1,by go_num,by go_num,by omega,by omega,by omega,⟨by have:=HO.out;omega⟩,HB2,HD2⟩
           case measure=>simp [intOf];omega
          ·have:n=j:=by omega
           subst this
           obtain⟨r0,r1,-⟩:=HD.out.facts (j:=0) (x:=0) (by omega) (by omega)
           have hdl0:dl c d 0=d:=by unfold dl;rw [if_pos (by omega)]
           rw [hdl0] at r1
           go_wp2
           clear r0 r1 hdl0
           obtain⟨w4,hw4⟩:∃ w4,w4=wr:=⟨_,rfl⟩
           rw [<- hw4] at HB HD ⊢
           clear hw4
           go_loopw [24,29] (fun vo vi wr=>∃ i off:Nat,vi=.int .i64 ((d+i:Nat):Int)/\vo=.int .i64 (off:Int)/\i<=e/\off<=T/\Aside0 (off=P1+c2+i*n)/\Aside0 (Below w.heap.size w wr)/\Aside0 (Dbs wr gR w.heap.size n n p q (dl c d) (fill c d c2 e ws off))) (fun _ vi _=>(d+e-intOf vi).toNat)
           case atStart=>exact⟨0,off,rfl,rfl,by omega,by omega,⟨by have:=HO.out;omega⟩,HB,HD⟩
           case round=>
            clear HB HD
            obtain⟨i,off,rfl,rfl,hi,hoff,HO,HB,HD⟩:=hrel
            by_cases hie:i<e
            ·go_wp2
             obtain⟨w4,hw4⟩:∃ w4,w4=wr:=⟨_,rfl⟩
             rw [<- hw4] at HB HD ⊢
             clear hw4
             have HO1:=HO
             go_loopw [24,30] (fun vo vj wr=>∃ j off:Nat,vj=.int .i64 (j:Int)/\vo=.int .i64 (off:Int)/\j<=n/\off<=T/\Aside0 (off=P1+c2+i*n+j)/\Aside0 (Below w.heap.size w wr)/\Aside0 (Dbs wr gR w.heap.size n n p q (dl c d) (fill c d c2 e ws off))) (fun _ vj _=>(n-intOf vj).toNat)
             case atStart=>exact⟨0,off,rfl,rfl,by omega,by omega,HO1,HB,HD⟩
             case round=>
              clear HB HD
              obtain⟨j,off,rfl,rfl,hj,hoff,HO,HB,HD⟩:=hrel
              by_cases hjn:j<n
              ·have hoP:off<T:=by
                have:=H6.out i j hie hjn
                have:=HO.out
                omega
               have hoT:off<T:=by omega
               by_cases hjc:j<c
               ·have hdl:dl c d j=d:=by unfold dl;rw [if_pos hjc]
                have hpos:posOf c d c2 j (d+i)=off:=by unfold posOf;rw [if_neg (by omega),hdl,if_neg (by omega),HNN.out,HP1.out,HO.out,show d+i-d=i by omega]
                have hfit:d+i<dl c d j+e:=by rw [hdl];omega
                clear hdl
                obtain⟨r0,r1,⟨old,r2⟩,r3⟩:=HD.out.facts (j:=j) (x:=(d+i)) hjn hfit
                obtain⟨L,hL⟩:∃ L,dl c d j+e=L:=⟨_,rfl⟩
                have hxL:(d+i)<L:=by rw [<- hL];exact hfit
                rw [hL] at r1
                obtain⟨vv,hvv⟩:∃ vv,ws.getD off 0=vv:=⟨_,rfl⟩
                have r4:wr.cell? ⟨gw,off,none⟩=some (.int .u8 (vv:Int)):=by
                 have:=UBlk.cell (Blk.below HW.out HB.out (Blk.lt HW.out)) off (by rw [HN.out];exact hoT)
                 rw [hvv] at this
                 exact this
                have HD2:=Aside0.mk (HD.out.step HNN.out hjn hpos hvv)
                have HB2:=Aside0.mk (Below.setc (below_drew1 HB.out) (HD.out.fresh j hjn) (i:=(d+i)) (.int .u8 (vv:Int)))
                clear hL hvv hpos
                go_wp2
                apply held
                case r=>
                 intro REST
                 go_region
                 all_goals exact REST
                go_wp2
                clear r0 r1 r2 r3 r4
                go_roundw
                case rel=>exact⟨j+1,off+1,by go_num,by go_num,by omega,by omega,⟨by rw [HO.out,Nat.add_assoc]⟩,HB2,HD2⟩
                case measure=>simp [intOf];omega
               ·have hdl:dl c d j=d+1:=by unfold dl;rw [if_neg hjc]
                have hpos:posOf c d c2 j (d+i+1)=off:=by unfold posOf;rw [if_neg (by omega),hdl,if_neg (by omega),HNN.out,HP1.out,HO.out,show d+i+1-(d+1)=i by omega]
                have hfit:d+i+1<dl c d j+e:=by rw [hdl];omega
                clear hdl
                obtain⟨r0,r1,⟨old,r2⟩,r3⟩:=HD.out.facts (j:=j) (x:=(d+i+1)) hjn hfit
                obtain⟨L,hL⟩:∃ L,dl c d j+e=L:=⟨_,rfl⟩
                have hxL:(d+i+1)<L:=by rw [<- hL];exact hfit
                rw [hL] at r1
                obtain⟨vv,hvv⟩:∃ vv,ws.getD off 0=vv:=⟨_,rfl⟩
                have r4:wr.cell? ⟨gw,off,none⟩=some (.int .u8 (vv:Int)):=by
                 have:=UBlk.cell (Blk.below HW.out HB.out (Blk.lt HW.out)) off (by rw [HN.out];exact hoT)
                 rw [hvv] at this
                 exact this
                have HD2:=Aside0.mk (HD.out.step HNN.out hjn hpos hvv)
                have HB2:=Aside0.mk (Below.setc (below_drew1 HB.out) (HD.out.fresh j hjn) (i:=(d+i+1)) (.int .u8 (vv:Int)))
                clear hL hvv hpos
                go_wp2
                apply held
                case r=>
                 intro REST
                 go_region
                 all_goals exact REST
                go_wp2
                clear r0 r1 r2 r3 r4
                go_roundw
                case rel=>exact⟨j+1,off+1,by go_num,by go_num,by omega,by omega,⟨by rw [HO.out,Nat.add_assoc]⟩,HB2,HD2⟩
                case measure=>simp [intOf];omega
              ·have:n=j:=by omega
               subst this
               go_wp2
               go_roundw
               case rel=>exact⟨i+1,off,by go_num,rfl,by omega,by omega,⟨by rw [HO.out,Nat.add_mul,Nat.one_mul,Nat.add_assoc]⟩,HB,HD⟩
               case measure=>simp [intOf];omega
            ·have:e=i:=by omega
             subst this
             have hend:off=d*n+c2+e*n:=by rw [HO.out,HP1.out]
             have hDD:=HD.out
             rw [hend] at hDD
             have HDD:=Aside0.mk (fill_full c d c2 e ws HNN.out hDD)
             clear hend hDD
             go_wp2
             go_ret2
             refine⟨gR,p,q,by first | (rw [HNN.out];done) | (rw [HNN.out];rfl),HGB.out,?_,HB.out⟩
             rw [HNN.out]
             exact HDD.out
end Go.Proofs.YtgccjgpdjkhpdaaGreat.B
