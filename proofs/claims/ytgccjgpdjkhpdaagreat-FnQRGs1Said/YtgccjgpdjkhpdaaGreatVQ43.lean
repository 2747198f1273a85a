import Derived.Test.YtgccjgpdjkhpdaaGreatVQ24
/-! Own texts of this claim, part 43. -/
namespace Go.Proofs.YtgccjgpdjkhpdaaGreat.B
open Go.RowKit Go.Proofs.YtgccjgpdjkhpdaaGreatW.PrintWords Go.Proofs.YtgccjgpdjkhpdaaGreatW.PrintLast Go.Proofs.YtgccjgpdjkhpdaaGreatW.PrintMore
set_option linter.unusedVariables false
set_option linter.unusedSimpArgs false
def befD (c d i:Nat):Nat:=d*i+(i-c)
theorem befD_succ (c d i:Nat):befD c d (i+1)=befD c d i+dl c d i:=by
 unfold befD dl
 rw [Nat.mul_add,Nat.mul_one]
 split<;>omega
def dataOf (c d c2 e:Nat)(ws:List Nat)(k:Nat):List Nat:=(List.range k).flatMap fun j=>(blockWords c d c2 e ws j).take (dl c d j)
theorem blockWords_len (c d c2 e:Nat)(ws:List Nat)(j:Nat):(blockWords c d c2 e ws j).length=dl c d j+e:=by simp [blockWords]
theorem dataOf_succ (c d c2 e:Nat)(ws:List Nat)(k:Nat):dataOf c d c2 e ws (k+1)=dataOf c d c2 e ws k++(blockWords c d c2 e ws k).take (dl c d k):=by
 unfold dataOf
 rw [List.range_succ,List.flatMap_append]
 simp
theorem dataOf_len (c d c2 e:Nat)(ws:List Nat)(k:Nat):(dataOf c d c2 e ws k).length=befD c d k:=by
 induction k with
 | zero=>simp [dataOf,befD]
 | succ k ih=>
  rw [dataOf_succ,List.length_append,ih,befD_succ,List.length_take,blockWords_len]
  omega
theorem befD_mono (c d i k:Nat)(h:i<=k):befD c d i<=befD c d k:=by
 unfold befD
 have:=Nat.mul_le_mul_left d h
 omega
theorem dataOf_get (c d c2 e:Nat)(ws:List Nat)(j x:Nat)(hx:x<dl c d j):∀ k,j<k->(dataOf c d c2 e ws k).getD (befD c d j+x) 0=(blockWords c d c2 e ws j).getD x 0:=by
 intro k
 induction k with
 | zero=>intro h;omega
 | succ k ih=>
  intro h
  rw [dataOf_succ]
  by_cases hjk:j=k
  ·subst hjk
   rw [List.getD_eq_getElem?_getD,List.getElem?_append_right (by rw [dataOf_len];omega),dataOf_len,Nat.add_sub_cancel_left,List.getElem?_take,if_pos hx,<- List.getD_eq_getElem?_getD]
  ·have h1:=befD_mono c d (j+1) k (by omega)
   rw [befD_succ] at h1
   rw [List.getD_eq_getElem?_getD,List.getElem?_append_left (by rw [dataOf_len];omega),<- List.getD_eq_getElem?_getD]
   exact ih (by omega)
theorem PolyAt.upd2 {w w':World}{q gf p b:Nat}{cs cs2:Array Value}{xs:List Nat}(h:PolyAt w q gf xs)(hu:Upd2 w w' p b)(hp:Blk w p 144 cs)(hb:Blk w b 214 cs2):PolyAt w' q gf xs:=by
 obtain⟨g,o,c,k1,k2,k3,k4⟩:=h
 exact⟨g,o,c,hu.blk k1 (blk_ne k1 hp (by decide)) (blk_ne k1 hb (by decide)),k2,k3.move (hu.block g k3.lt (k3.ne hp (by decide)) (k3.ne hb (by decide))),k4⟩
theorem DecAt.upd2 {w w':World}{d rs gf p b:Nat}{cs cs2:Array Value}(h:DecAt w d rs gf)(hu:Upd2 w w' p b)(hp:Blk w p 144 cs)(hb:Blk w b 214 cs2):DecAt w' d rs gf:=by
 obtain⟨h1,h2,ge,gl,zp,op,ls,k1,k2,k3,k4,k5,k6⟩:=h
 have mv:∀ {q:Nat} {t:TypeId} {cs3:Array Value},Blk w q t cs3->t≠144->t≠214->Blk w' q t cs3:=fun hq n1 n2=>hu.blk hq (blk_ne hq hp n1) (blk_ne hq hb n2)
 exact⟨mv h1 (by decide) (by decide),mv h2 (by decide) (by decide),ge,gl,zp,op,ls,mv k1 (by decide) (by decide),mv k2 (by decide) (by decide),mv k3 (by decide) (by decide),k4,k5.upd2 hu hp hb,k6.upd2 hu hp hb⟩
structure Clean (c d c2 e:Nat)(ws:List Nat):Prop where
 small:∀ j,j<c+c2->AllLt 8 (blockWords c d c2 e ws j)
 root:∀ j,j<c+c2->∀ i,i<e->pev 8 285 (gx 8 285 i) (blockWords c d c2 e ws j)=0
theorem Upd2.trans_below {x y z:World}{g b:Nat}(h:Upd2 x y g b)(k:Below y.heap.size y z):Upd2 x z g b:=h.trans (Upd2.of (Upd.of_below k g) b)
set_option maxHeartbeats 8000000 in
set_option maxRecDepth 8000 in
theorem decodeTo (w:World)(dd rs gf p g b v dn l:Nat)(f:Nat->Nat->Bool)(hint:Value)(ws:List Nat)(K:Ending->World->Prop)
  (hD:DecAt w dd rs gf) (hP:Parser w p g v (.pointer none)) (hdn:dn<32) (hgo:fmtGo (nacc (fat1 f) 15) (nacc (fat2 f (17+4*v)) 15) fmtTab (2147483647,0)=some dn) (G:Grid w g b (17+4*v) (17+4*v) f) (hv:1<=v/\v<=40) (hok:VerOK f v) (hgp:g≠p) (hbp:b≠p)
  (hl:dn/8=l) (hl4:l<4) (hws:wordsOf v (dn%8) f=ws) (hC:Clean (lvC v l) (lvD v l) (lvC2 v l) (lvE v l) ws)
  (hK:∀ W gt pv,UBlk W gt (dataOf (lvC v l) (lvD v l) (lvC2 v l) (lvE v l) ws (lvC v l+lvC2 v l))->VerAt W pv (v:Int) (verRow v)->Upd2 w W p b->w.heap.size<=gt->
   Calls Tryz.prog 61 #[.slice (some ⟨gt,0,none⟩) (befD (lvC v l) (lvD v l) (lvC v l+lvC2 v l)) (befD (lvC v l) (lvD v l) (lvC v l+lvC2 v l)),.pointer (some ⟨pv,0,none⟩),.int .i64 (l:Int),hint] W fun e W'=>∃ x y,e=.returned (.tuple #[x,y])/\K e W') :
  Calls Tryz.prog 149 #[.pointer (some ⟨dd,0,none⟩),.pointer (some ⟨p,0,none⟩),hint] w K:=by
 have HD:=Aside0.mk hD
 have HP:=Aside0.mk hP
 have HGO:=Aside0.mk hgo
 have HG:=Aside0.mk G
 have HV:=Aside0.mk hv
 have HOK:=Aside0.mk hok
 have HL:=Aside0.mk hl
 have HWS:=Aside0.mk hws
 have HC:=Aside0.mk hC
 have HK:=Aside0.mk hK
 clear hD hP hgo G hv hok hl hws hC hK
 go_enter Tryz.func149,Tryz.ntmps149
 go_wp2_with fail
 refine (readVersion w p g b v _ f HP.out HG.out HV.out HOK.out).mono ?_
 rintro e w1 ⟨pv,rfl,hV1,hP1,hu1⟩
 have HV1:=Aside0.mk hV1
 have HP1:=Aside0.mk hP1
 have HU1:=Aside0.mk hu1
 have HG1:=Aside0.mk (hu1.grid HG.out hgp hbp)
 clear hV1 hP1 hu1
 go_wp2_with fail
 refine (readFormat w1 p g b v dn f HP1.out HG1.out HV.out hdn HGO.out).mono ?_
 rintro e w2 ⟨q2,rfl,hF2,hP2,hu2⟩
 have HF2:=Aside0.mk hF2
 have HP2:=Aside0.mk hP2
 have HU2:=Aside0.mk (HU1.out.trans hu2)
 have HG2:=Aside0.mk (hu2.grid HG1.out hgp hbp)
 have HV2:=Aside0.mk (show VerAt w2 pv (v:Int) (verRow v) by obtain⟨x1,hb1,_⟩:=HP1.out;exact HV1.out.upd_any hu2 hb1 (by decide) (by decide) (by decide) (by decide))
 clear hF2 hP2 hu2
 go_wp2_with fail
 refine (fmtLevel w2 q2 dn HF2.out).mono ?_
 rintro e w' ⟨rfl,rfl⟩
 rw [HL.out]
 go_wp2_with fail
 refine (readCodewords w2 p g b v q2 dn f HP2.out HF2.out HG2.out HV.out HOK.out hgp hbp).mono ?_
 rintro e w3 ⟨gr,rfl,hgr,hU3,hG3,hu3⟩
 rw [HWS.out] at hU3
 have HU3:=Aside0.mk hU3
 have HUP3:=Aside0.mk ((Upd2.of HU2.out b).trans hu3)
 have HV3:=Aside0.mk (show VerAt w3 pv (v:Int) (verRow v) by
  obtain⟨x1,hb1,_⟩:=HP2.out
  obtain⟨cs,hb2⟩:=HG2.out.words
  exact HV2.out.upd2 hu3 hb1 hb2)
 have hwl:ws.length=roomN v/8:=by rw [<- HWS.out];simp [wordsOf]
 have HWL:=Aside0.mk hwl
 clear hU3 hG3 hu3 hwl hgr
 go_wp2_with fail
 refine (dataBlocks w3 pv v l gr ws HV3.out HV.out hl4 HU3.out HWL.out).mono ?_
 rintro e w4 ⟨gR,pf,qf,rfl,hgR,hD4,hb4⟩
 have LY:=lay_at v l HV.out hl4
 have HCL:=HC
 have HKK:=HK
 clear HC HK
 obtain⟨e,he⟩:∃ e,lvE v l=e:=⟨_,rfl⟩
 obtain⟨c,hc⟩:∃ c,lvC v l=c:=⟨_,rfl⟩
 obtain⟨d,hd⟩:∃ d,lvD v l=d:=⟨_,rfl⟩
 obtain⟨c2,hc2⟩:∃ c2,lvC2 v l=c2:=⟨_,rfl⟩
 rw [he,hc,hd,hc2] at LY hD4 HCL HKK
 rw [hc,hc2]
 obtain⟨lr,e1,e2,q1,q2,q3,q4,-⟩:=LY
 obtain⟨n,hn⟩:∃ n,c+c2=n:=⟨_,rfl⟩
 rw [hn] at hD4 HKK ⊢
 have HD4:=Aside0.mk hD4
 have HB4:=Aside0.mk hb4
 have HDD4:=Aside0.mk (show DecAt w4 dd rs gf by
  obtain⟨x1,hb1,_⟩:=HP.out
  obtain⟨cs,hb2⟩:=HG.out.words
  exact (HD.out.upd2 HUP3.out hb1 hb2).below hb4 (Nat.le_refl _))
 have HV4:=Aside0.mk (HV3.out.below hb4 (Nat.le_refl _))
 have HUP4:=Aside0.mk (HUP3.out.trans_below hb4)
 have HNN:=Aside0.mk hn
 clear hD4 hb4 lr he hc hd hc2
 have hn1:1<=n:=by omega
 have hn100:n<=100:=by omega
 have hcn:c<=n:=by omega
 clear hn
 go_wp2_with fail
 go_loopw [14,67] (fun vt vi wr=>∃ i t:Nat,vi=.int .i64 (i:Int)/\vt=.int .i64 (t:Int)/\i<=n/\Aside0 (t=befD c d i)/\t<=300*i/\wr=w4) (fun _ vi _=>(n-intOf vi).toNat)
 case atStart=>exact⟨0,0,rfl,rfl,by omega,⟨by simp [befD]⟩,by omega,by first | rfl | trivial⟩
 case round=>
  obtain⟨i,t,rfl,rfl,hi,HT,ht,hww⟩:=hrel
  have hww:=hww.symm
  subst hww
  by_cases hin:i<n
  ·have r0:=HD4.out.ptr (i:=i) hin hin
   obtain⟨x,hx⟩:∃ x,dl c d i=x:=⟨_,rfl⟩
   have hx3:x<=300:=by rw [<- hx];unfold dl;split<;>omega
   have kb:=dbNum w4 (pf i) (dl c d i:Int) _ (HD4.out.blk i hin)
   rw [hx] at kb
   have HT2:=Aside0.mk (show t+x=befD c d (i+1) by rw [befD_succ,HT.out,hx])
   clear hx
   go_wp2_with (go_at_call 163;refine kb.mono ?_;rintro e' w' ⟨rfl,rfl⟩)
   go_roundw
   case rel=>exact⟨i+1,t+x,by go_num,by go_num,by omega,HT2,by omega,by first | rfl | trivial⟩
   case measure=>simp [intOf];omega
  ·have:n=i:=by omega
   subst this
   have mk:=make_u8 t (by omega)
   go_wp2
   clear mk
   obtain⟨gt,hgt⟩:∃ gt,gt=w4.heap.size:=⟨_,rfl⟩
   rw [<- hgt]
   obtain⟨D,hD⟩:∃ D,dataOf c d c2 e ws n=D:=⟨_,rfl⟩
   have hDl:D.length=t:=by rw [<- hD,dataOf_len,HT.out]
   obtain⟨w5,hw5⟩:∃ w5,w5=w4.alloc (.cells (nums .u8 (ints (List.replicate t 0))).toArray 5):=⟨_,rfl⟩
   rw [<- hw5]
   have HZ:=Aside0.mk (show UBlk w5 gt (copyTo D 0) by unfold copyTo;rw [hw5,hgt,hDl];exact Blk.new _ _ _)
   have HB5:=Aside0.mk (show Below w4.heap.size w4 w5 by rw [hw5];exact below_alloc (Below.refl _ _) _)
   have HGT:=Aside0.mk hgt
   have HDE:=Aside0.mk hD
   have HDL:=Aside0.mk hDl
   clear hw5 hgt hD hDl
   go_loopw [18,80] (fun vo vi wx=>∃ i o:Nat,vi=.int .i64 (i:Int)/\vo=.int .i64 (o:Int)/\i<=n/\Aside0 (o=befD c d i)/\Aside0 (Below w4.heap.size w4 wx)/\Aside0 (UBlk wx gt (copyTo D o))) (fun _ vi _=>(n-intOf vi).toNat)
   case atStart=>exact⟨0,0,rfl,rfl,by omega,⟨by simp [befD]⟩,HB5,HZ⟩
   case round=>
    clear HB5 HZ
    obtain⟨i,o,rfl,rfl,hi,HO,HB,HZ⟩:=hrel
    by_cases hin:i<n
    ·have hD5:=HD4.out.below HB.out (Nat.le_refl _)
     have r0:=hD5.ptr (i:=i) hin hin
     obtain⟨x,hx⟩:∃ x,dl c d i=x:=⟨_,rfl⟩
     have hx3:x<=201:=by rw [<- hx];unfold dl;split<;>omega
     have hget:∀ k,k<x->D.getD (o+k) 0=(blockWords c d c2 e ws i).getD k 0:=fun k hk=>by
      rw [<- HDE.out,HO.out];exact dataOf_get c d c2 e ws i k (by rw [hx];exact hk) n hin
     have hnext:o+x=befD c d (i+1):=by rw [befD_succ,HO.out,hx]
     have hmono:=befD_mono c d (i+1) n (by omega)
     have hTn:=HT.out
     have hot:o+x<=t:=by omega
     have hbl:=blockWords_len c d c2 e ws i
     obtain⟨bw,hbw⟩:∃ bw,blockWords c d c2 e ws i=bw:=⟨_,rfl⟩
     have hblk:=hD5.blk i hin
     have hwd:=hD5.word i hin
     have hsm:=HCL.out.small i (by rw [HNN.out];exact hin)
     have hrt:=HCL.out.root i (by rw [HNN.out];exact hin)
     rw [hbw] at hblk hwd hsm hrt hbl hget
     rw [hx] at hblk hbl
     rw [hbl] at hblk
     have kb:=dbNum _ (pf i) (x:Int) _ hblk
     have kw:=dbWords _ (pf i) _ _ hblk
     have kc:=corrClean _ dd rs gf (qf i) (x+e) x bw (HDD4.out.below HB.out (Nat.le_refl _)) hwd hsm hbl (by omega) (by omega) (by omega) (by omega) (fun i hi=>hrt i (by omega))
     have HGET:=Aside0.mk hget
     have HWD:=Aside0.mk hwd
     have HBL:=Aside0.mk hbl
     have HNX:=Aside0.mk hnext
     have hq4:qf i<w4.heap.size:=Blk.lt (HD4.out.word i hin)
     have hqg:qf i≠gt:=by rw [HGT.out];omega
     clear hD5 hx hget hnext hmono hTn hbl hbw hblk hwd hsm hrt hq4
     go_wp2_with (first | (go_at_call 163;refine kb.mono ?_;rintro e' w' ⟨rfl,rfl⟩) | (go_at_call 164;refine kw.mono ?_;rintro e' w' ⟨rfl,rfl⟩) | (go_at_call 165;refine kc.mono ?_;rintro e' wy ⟨rfl,hby⟩))
     have HBY:=Aside0.mk (below_then HB.out HB.out.size hby)
     have HZY:=Aside0.mk (show UBlk wy gt (copyTo D o) from Blk.below HZ.out hby (Blk.lt HZ.out))
     have HWY:=Aside0.mk (show UBlk wy (qf i) bw from Blk.below HWD.out hby (Blk.lt HWD.out))
     clear hby kb kw kc r0
     go_loopw [18,24] (fun vo vk wz=>∃ k:Nat,vk=.int .i64 (k:Int)/\vo=.int .i64 ((o+k:Nat):Int)/\k<=x/\Aside0 (Below w4.heap.size w4 wz)/\Aside0 (UBlk wz gt (copyTo D (o+k)))/\Aside0 (UBlk wz (qf i) bw)) (fun _ vk _=>(x-intOf vk).toNat)
     case atStart=>exact⟨0,rfl,rfl,by omega,HBY,HZY,HWY⟩
     case round=>
      clear HBY HZY HWY HB HZ
      obtain⟨k,rfl,rfl,hk,HB,HZ,HW⟩:=hrel
      by_cases hkx:k<x
      ·obtain⟨y,hy⟩:∃ y,bw.getD k 0=y:=⟨_,rfl⟩
       have r1:wr.cell? ⟨qf i,k,none⟩=some (.int .u8 (y:Int)):=by
        have:=UBlk.cell HW.out k (by rw [HBL.out];omega)
        rw [hy] at this
        exact this
       obtain⟨old,hold⟩:∃ old,(copyTo D (o+k)).getD (o+k) 0=old:=⟨_,rfl⟩
       have z1:wr.cell? ⟨gt,o+k,none⟩=some (.int .u8 (old:Int)):=by
        have:=UBlk.cell HZ.out (o+k) (by rw [copyTo_len D _ (by rw [HDL.out];omega),HDL.out];omega)
        rw [hold] at this
        exact this
       have z2:wr.frozen? ⟨gt,o+k,none⟩=false:=Blk.frozen HZ.out _
       have HZ2:=Aside0.mk (show UBlk (wr.setCell ⟨gt,o+k,none⟩ (.int .u8 (y:Int))) gt (copyTo D (o+(k+1))) by
        have h1:=HZ.out.set (o+k) y
        rw [<- hy,<- HGET.out k hkx,copyTo_set D (o+k) (by rw [HDL.out];omega),HGET.out k hkx,hy] at h1
        exact h1)
       have HW2:=Aside0.mk (show UBlk (wr.setCell ⟨gt,o+k,none⟩ (.int .u8 (y:Int))) (qf i) bw from Blk.far (p:=⟨gt,o+k,none⟩) HW.out hqg _)
       have HB2:=Aside0.mk (show Below w4.heap.size w4 (wr.setCell ⟨gt,o+k,none⟩ (.int .u8 (y:Int))) from Below.setc HB.out (by rw [HGT.out];exact Nat.le_refl _) _)
       clear hy hold
       go_wp2
       go_roundw
       case rel=>exact⟨k+1,by go_num,by go_num,by omega,HB2,HZ2,HW2⟩
       case measure=>simp [intOf];omega
      ·have:x=k:=by omega
       subst this
       go_wp2
       go_roundw
       case rel=>exact⟨i+1,o+x,by go_num,rfl,by omega,HNX,HB,HZ⟩
       case measure=>simp [intOf];omega
    ·have:n=i:=by omega
     subst this
     have hZ:=HZ.out
     rw [HO.out,<- HT.out,<- HDL.out,copyTo_all,<- HDE.out] at hZ
     have hk:=HKK.out wr gt pv hZ (HV4.out.below HB.out (Nat.le_refl _)) (HUP4.out.trans_below HB.out) (by rw [HGT.out];exact HUP4.out.size)
     rw [<- HT.out] at hk
     clear hZ
     go_wp2_with fail
     refine hk.mono ?_
     rintro e' w' ⟨xr,yr,rfl,hkk⟩
     go_wp2_with fail
     exact hkk
end Go.Proofs.YtgccjgpdjkhpdaaGreat.B
