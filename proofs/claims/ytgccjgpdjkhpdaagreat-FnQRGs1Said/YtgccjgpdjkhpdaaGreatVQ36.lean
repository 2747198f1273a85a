import Derived.Test.YtgccjgpdjkhpdaaGreatVQ34
import Derived.Test.YtgccjgpdjkhpdaaGreatVQ39
/-! Own texts of this claim, part 36. -/
namespace Go.Proofs.YtgccjgpdjkhpdaaGreat.B
open Go.RowKit Go.Proofs.YtgccjgpdjkhpdaaGreatW.PrintWords Go.Proofs.YtgccjgpdjkhpdaaGreatW.PrintLast Go.Proofs.YtgccjgpdjkhpdaaGreatW.PrintMore
set_option linter.unusedVariables false
set_option linter.unusedSimpArgs false
section
variable {w wr:World} {v6:Value} {bits:List Bool} {p:Nat} {m:Int} {A:Option Addr} {n c:Nat}
theorem addS {N k:Nat}{a b:Int}(h:SMem w wr v6 bits p m A n c)(ha:a=(N:Int))(hb:b=(k:Int))(hn:N<2147483648)(hk:k<=60)(hxl:bits.length<=9000000) :
  Calls Tryz.prog 66 #[v6,.int .i64 a,.int .i64 b] wr fun e w'=>∃ v',e=.returned v'/\SMem w w' v' (bits++natBits N k) p m A n c:=by
 subst ha hb
 refine (qrAdd w wr w.heap.size N k v6 bits h.own h.bel h.bel.size hn hk (by omega)).mono ?_
 rintro e w' ⟨v',rfl,h1,h2,h3⟩
 exact⟨v',rfl,h1,h2,(h3.by_.block p h.box.lt (own_ne h.own h.box (by decide))).trans h.box⟩
theorem dataS {s:F.S98}{v:Nat}(h:SMem w wr v6 bits p m A n c)(hs:SegOK s v)(hm:s.f0=m)(hn:s.f1.length=n)(hc:n<=c)(hC:Kd.C (Kd.int .u8) w A n s.f1)(hxl:bits.length<=8000000) :
  Calls Tryz.prog 123 #[v6,.agg #[.int .i64 m,.slice A n c]] wr fun e w'=>∃ v',e=.returned v'/\BOwn w' w.heap.size v' (bits++sgData (toSg s))/\Below w.heap.size w w':=by
 have hsh:=hs.short
 rcases hs.mode with e | e | e
 ·have hd:sgData (toSg s)=numData s.f1:=by simp [sgData,toSg,e]
  rw [<- hm,e,hd]
  refine (dataNum w wr v6 bits A c n s.f1 hn hc hC h.bel h.own h.bel.size (hs.num e) (by omega)).mono ?_
  rintro e w' ⟨v',rfl,h1,h2,h3⟩
  exact⟨v',rfl,h1,h2⟩
 ·have hd:sgData (toSg s)=alData s.f1:=by simp [sgData,toSg,e]
  rw [<- hm,e,hd]
  refine (dataAl w wr v6 bits A c n s.f1 hn hc hC h.bel h.own h.bel.size (hs.al e) (by omega)).mono ?_
  rintro e w' ⟨v',rfl,h1,h2,h3⟩
  exact⟨v',rfl,h1,h2⟩
 ·have hd:sgData (toSg s)=byData s.f1:=by simp [sgData,toSg,e]
  rw [<- hm,e,hd]
  refine (dataByte w wr v6 bits A c n s.f1 hn hc hC h.bel h.own h.bel.size hs.by_ (by omega)).mono ?_
  rintro e w' ⟨v',rfl,h1,h2,h3⟩
  exact⟨v',rfl,h1,h2⟩
theorem fitsS {s:F.S98}{v:Nat}(h:SMem w wr v6 bits p m A n c)(hs:SegOK s v)(hm:s.f0=m)(hn:s.f1.length=n)(hC:Kd.C (Kd.int .u8) w A n s.f1) :
  Calls Tryz.prog 122 #[.agg #[.int .i64 m,.slice A n c]] wr fun e w'=>e=.returned (.bool true)/\SMem w w' v6 bits p m A n c:=by
 have hsh:=hs.short
 refine (fits122 wr m A c s.f1 n hn (by rw [<- hm];exact hs.mode) (Kd.C_below hC h.bel) (fun e=>hs.num (by omega)) (fun e=>hs.al (by omega)) (by omega)).mono ?_
 rintro e w' ⟨rfl,hb⟩
 exact⟨rfl,h.under hb⟩
theorem cntS {v k:Nat}(h:SMem w wr v6 bits p m A n c)(hm:m=1\/m=2\/m=4)(hv:1<=v/\v<=40)(hk:cntBits m.toNat v=k) :
  Calls Tryz.prog 58 #[.int .i64 m,.int .i64 (v:Int)] wr fun e w'=>e=.returned (.tuple #[.int .i64 (k:Int),.bool true])/\SMem w w' v6 bits p m A n c:=by
 refine (cnt58 wr m.toNat v m (by omega) (by omega) hv).mono ?_
 rintro e w' ⟨rfl,hb⟩
 exact⟨by rw [hk],h.under hb⟩
end
theorem sgBits_len (s:Sg)(v:Nat)(h:s.text.length<=2000):(sgBits s v).length<=20000:=by
 have h1:=cntBits_le s.mode v
 have h2:(sgData s).length<=8*s.text.length:=by
  unfold sgData
  split
  ·have:=numData_len s.text;omega
  ·split
   ·have:=alData_len s.text;omega
   ·rw [byData_len];omega
 unfold sgBits
 rw [List.length_append,List.length_append,natBits_len,natBits_len]
 omega
set_option maxHeartbeats 4000000 in
set_option maxRecDepth 8000 in
theorem stream67 (w:World)(A:Option Addr)(c n v:Nat)(l:List F.S98)(hl:Kd.C F.k98 w A n l)(hn:l.length=n)(hv:1<=v/\v<=40)(hs:∀ s∈l,SegOK s v)(hn2:n<=200) :
  Calls Tryz.prog 67 #[.slice A n c,.int .i64 (v:Int)] w fun e w'=>∃ v',e=.returned (.tuple #[v',.bool true])/\BOwn w' w.heap.size v' (sgStream (l.map toSg) v)/\Below w.heap.size w w':=by
 have HC:=Aside0.mk hl
 have HN:=Aside0.mk hn
 have HS:=Aside0.mk hs
 have HV:=Aside0.mk hv
 clear hl hn hs hv
 go_enter Tryz.func67,Tryz.ntmps67
 go_wp2_with fail
 go_loopw [6,13] (fun v6 v13 wr=>∃ i:Nat,v13=.int .i64 (i:Int)/\i<=n/\Aside0 (BOwn wr w.heap.size v6 (sgStream ((l.take i).map toSg) v))/\Aside0 (Below w.heap.size w wr)/\Aside0 ((sgStream ((l.take i).map toSg) v).length<=20000*i)) (fun _ v13 _=>(n-intOf v13).toNat)
 case atStart=>exact⟨0,rfl,Nat.zero_le _,⟨⟨rfl,.inl ⟨rfl,rfl⟩⟩⟩,⟨Below.refl _ _⟩,⟨by simp [sgStream]⟩⟩
 case round=>
  obtain⟨i,rfl,hi,HO,HB,HL⟩:=hrel
  by_cases hin:i<n
  ·obtain⟨ad,A1,c1,e0,r0,r1,l1,g1⟩:=F.at_T98 HC.out (i:Int) (by omega) (by omega)
   rw [Int.toNat_natCast] at r0 r1
   obtain⟨s,hss⟩:∃ s,F.rd_T98 l i=s:=⟨_,rfl⟩
   rw [hss] at r0 r1 l1 g1
   have hgi:l[i]? = some s:=by
    have hlt:i<l.length:=by rw [HN.out];exact hin
    rw [List.getElem?_eq_getElem hlt,<- hss]
    unfold F.rd_T98
    rw [Int.toNat_natCast,List.getD_eq_getElem?_getD,List.getElem?_eq_getElem hlt]
    rfl
   have hso:=HS.out s (List.mem_of_getElem? hgi)
   have HTK:=Aside0.mk (show sgStream ((l.take (i+1)).map toSg) v=sgStream ((l.take i).map toSg) v++sgBits (toSg s) v by
    rw [List.take_add_one,hgi]
    simp [sgStream])
   obtain⟨m,hm⟩:∃ m,s.f0=m:=⟨_,rfl⟩
   obtain⟨k,hk⟩:∃ k,s.f1.length=k:=⟨_,rfl⟩
   obtain⟨cb,hcb⟩:∃ cb,cntBits m.toNat v=cb:=⟨_,rfl⟩
   obtain⟨bits,hbits⟩:∃ bits,sgStream ((l.take i).map toSg) v=bits:=⟨_,rfl⟩
   have HNX:=Aside0.mk (show sgBits (toSg s) v=natBits m.toNat 4++(natBits k cb++sgData (toSg s)) by unfold sgBits toSg;rw [hm,hk,hcb])
   rw [hm] at r0
   rw [hk] at r1 l1 g1
   rw [hbits] at HO HL HTK
   subst e0
   replace r0:=cell_on HB.out r0
   replace r1:=cell_on HB.out r1
   have HSO:=Aside0.mk hso
   have HM:=Aside0.mk hm
   have HK:=Aside0.mk hk
   have HCB:=Aside0.mk hcb
   have HG:=Aside0.mk g1
   have HBL:=Aside0.mk (show bits.length<=4000000 by have:=HL.out;omega)
   have hmm:m=1\/m=2\/m=4:=by rw [<- hm];exact hso.mode
   have hkc:k<2 ^ cb:=by rw [<- hk,<- hcb,<- hm];exact hso.len
   have hcb16:cb<=16:=by rw [<- hcb];exact (cntBits_le _ _).2
   have hk2:k<=2000:=by rw [<- hk];exact hso.short
   obtain⟨P2,hP2⟩:∃ P2:Nat,2 ^ cb=P2:=⟨_,rfl⟩
   have hP2i:((2:Int) ^ cb)=(P2:Int):=by rw [<- hP2];simp
   have hP3:P2<=65536:=by rw [<- hP2];exact Nat.le_trans (Nat.pow_le_pow_right (by decide) hcb16) (by decide)
   rw [hP2] at hkc
   have hwp:IntKind.i64.wrap (2 ^ cb)=(P2:Int):=by rw [hP2i];exact IntWalk.i64_in _ (by omega)
   have HWP:=Aside0.mk hwp
   clear hP2 hP2i hwp
   obtain⟨wa,hwa⟩:∃ wa,wa=wr.alloc (.cells #[.int .i64 m,.slice A1 k c1] 98):=⟨_,rfl⟩
   have HSM:=Aside0.mk (show SMem w wa u6 bits wr.heap.size m A1 k c1 by
    rw [hwa]
    exact⟨HO.out.under (below_alloc (Below.refl _ _) _),HB.out.alloc HB.out.size _,Blk.new _ _ _⟩)
   have HWA:=Aside0.mk hwa
   have c0:=HSM.out.box.cell 0
   clear hso hss hgi hm hk hcb hbits hwa g1
   go_wp2_with fail
   rw [<- HWA.out]
   refine (cntS HSM.out hmm HV.out HCB.out).mono ?_
   rintro e w2 ⟨rfl,hM2⟩
   have HM2:=Aside0.mk hM2
   clear c0 hM2 r0 r1
   have c0:=HM2.out.box.cell 0
   have c1':=HM2.out.box.cell 1
   go_wp2_with fail
   have kf:=fitsS HM2.out.drew HSO.out HM.out HK.out HG.out
   have hwp:=HWP.out
   go_region_with (go_at_call 122;with_reducible (refine kf.mono ?_);rintro e w3 ⟨rfl,hM3⟩;have d0:=hM3.box.cell 0;have d1:=hM3.box.cell 1;have HM3:=Aside0.mk hM3;clear hM3)
   all_goals
    clear hwp c0 c1' kf
    go_wp2
    have hmN:m=((m.toNat:Nat):Int):=by omega
    have k1:=addS (N:=m.toNat) (k:=4) (a:=m) (b:=4) HM3.out.drew hmN rfl (by omega) (by decide) (by have:=HBL.out;omega)
    have HK2:=Aside0.mk (fun (W:World) (v1:Value) (hW:SMem w W v1 (bits++natBits m.toNat 4) wr.heap.size m A1 k c1)=>addS (N:=k) (k:=cb) (a:=(k:Int)) (b:=(cb:Int)) hW rfl rfl (by omega) (by omega) (by have:=HBL.out;rw [List.length_append,natBits_len];omega))
    clear hmN
    go_region_with (first | (go_at_call 66;with_reducible (refine k1.mono ?_);rintro e w4 ⟨v1,rfl,hM4⟩;have e0:=hM4.box.cell 0;have e1:=hM4.box.cell 1;have HM4:=Aside0.mk hM4;clear hM4) | (go_at_call 66;with_reducible (refine (HK2.out _ _ HM4.out).mono ?_);rintro e w5 ⟨v2,rfl,hM5⟩;have HM5:=Aside0.mk hM5;clear hM5))
    all_goals
     clear k1 d0 d1
     have g0:=HM5.out.box.cell 0
     have g1:=HM5.out.box.cell 1
     have kd:=dataS HM5.out HSO.out HM.out HK.out l1 HG.out (by have:=HBL.out;rw [List.length_append,List.length_append,natBits_len,natBits_len];omega)
     go_wp2_with (go_at_call 123;with_reducible (refine kd.mono ?_);rintro e w6 ⟨v3,rfl,hO6,hB6⟩;have HO6:=Aside0.mk hO6;have HB6:=Aside0.mk hB6;clear hO6 hB6)
     go_roundw
     case rel=>
      have ho:Aside0 (BOwn w6 w.heap.size v3 (sgStream ((l.take (i+1)).map toSg) v)):=⟨by rw [HTK.out,HNX.out];have:=HO6.out;simpa [List.append_assoc] using this⟩
      have hln:Aside0 ((sgStream ((l.take (i+1)).map toSg) v).length<=20000*(i+1)):=⟨by rw [HTK.out,List.length_append];have:=HL.out;have h3:=sgBits_len (toSg s) v HSO.out.short;omega⟩
      first
       | exact⟨i+1,by go_num,by omega,ho,HB6,hln⟩
       | ((repeat apply Exists.intro);exact⟨⟨i+1,by go_num,by omega,ho,HB6,hln⟩,rfl⟩)
     case measure=>(show ((n:Int)-((i:Int)+1)).toNat<((n:Int)-(i:Int)).toNat;omega)
  ·have:n=i:=by omega
   subst this
   have HTK:=Aside0.mk (show l.take n=l by rw [<- HN.out,List.take_length])
   go_wp2
   go_ret2
   exact⟨_,rfl,by have:=HO.out;rw [HTK.out] at this;exact this,HB.out⟩
end Go.Proofs.YtgccjgpdjkhpdaaGreat.B
namespace Go.Proofs.YtgccjgpdjkhpdaaGreat.B
open Go.RowKit Go.Proofs.YtgccjgpdjkhpdaaGreatW.PrintWords Go.Proofs.YtgccjgpdjkhpdaaGreatW.PrintLast Go.Proofs.YtgccjgpdjkhpdaaGreatW.PrintMore
set_option linter.unusedVariables false
set_option linter.unusedSimpArgs false
def pack (bits:List Bool):List Nat:=(List.range (bits.length/8)).map fun j=>bval (seg bits (8*j) 8)
def packTo (bits:List Bool)(i:Nat):List Nat:=(List.range i).map (fun j=>bval (seg bits (8*j) 8))++List.replicate (bits.length/8-i) 0
theorem packTo_len (bits:List Bool)(i:Nat)(h:i<=bits.length/8):(packTo bits i).length=bits.length/8:=by simp [packTo];omega
theorem packTo_all (bits:List Bool):packTo bits (bits.length/8)=pack bits:=by simp [packTo,pack]
theorem packTo_zero (bits:List Bool):packTo bits 0=List.replicate (bits.length/8) 0:=by simp [packTo]
theorem packTo_set (bits:List Bool)(i:Nat)(h:i<bits.length/8):(packTo bits i).set i (bval (seg bits (8*i) 8))=packTo bits (i+1):=by
 unfold packTo
 have hl:((List.range i).map (fun j=>bval (seg bits (8*j) 8))).length=i:=by simp
 rw [List.set_append_right _ _ (by omega),hl,Nat.sub_self,show bits.length/8-i=(bits.length/8-(i+1))+1 by omega,List.replicate_succ,List.set_cons_zero,List.range_succ,List.map_append,List.append_assoc]
 rfl
theorem packTo_set0 (bits:List Bool)(i:Nat)(h:i<bits.length/8):(packTo bits i).set i 0=packTo bits i:=by
 unfold packTo
 have hl:((List.range i).map (fun j=>bval (seg bits (8*j) 8))).length=i:=by simp
 rw [List.set_append_right _ _ (by omega),hl,Nat.sub_self,show bits.length/8-i=(bits.length/8-(i+1))+1 by omega,List.replicate_succ,List.set_cons_zero]
theorem seg_next (bits:List Bool)(s k:Nat)(h:s+k<bits.length):bval (seg bits s (k+1))=2*bval (seg bits s k)+(bits.getD (s+k) false).toNat:=by
 rw [seg_split,bval_append]
 have e:seg bits (s+k) 1=[bits.getD (s+k) false]:=by
  unfold seg
  rw [List.drop_eq_getElem_cons h,List.getD_eq_getElem?_getD,List.getElem?_eq_getElem h]
  rfl
 rw [e]
 simp only [List.length_singleton,Nat.pow_one]
 have:bval [bits.getD (s+k) false]=(bits.getD (s+k) false).toNat:=by simp [bval]
 omega
theorem pack_lt (bits:List Bool):AllLt 8 (pack bits):=by
 intro x hx
 unfold pack at hx
 obtain⟨j,_,rfl⟩:=List.mem_map.1 hx
 refine Nat.lt_of_lt_of_le (bval_lt _) (Nat.pow_le_pow_right (by decide) ?_)
 unfold seg
 simp
 omega
set_option maxHeartbeats 2000000 in
set_option maxRecDepth 8000 in
theorem bytes68 (w:World)(A:Option Addr)(c n:Nat)(bits:List Bool)(hn:bits.length=n)(hC:Kd.C Kd.bool w A n bits)(hl:n<=1000000) :
  Calls Tryz.prog 68 #[.slice A n c] w fun e w'=>e=.returned (.slice (some ⟨w.heap.size,0,none⟩) (n/8) (n/8))/\UBlk w' w.heap.size (pack bits)/\Below w.heap.size w w':=by
 obtain⟨N,hN⟩:∃ N,n/8=N:=⟨_,rfl⟩
 have hmk:=make_u8 N (by omega) w
 have hN8:(n:Int)/8=(N:Int):=by omega
 have h8:8*N<=n:=by omega
 obtain⟨w1,hw1⟩:∃ w1,w1=w.alloc (.cells (nums .u8 (ints (List.replicate N 0))).toArray 5):=⟨_,rfl⟩
 obtain⟨g,hg⟩:∃ g,g=w.heap.size:=⟨_,rfl⟩
 rw [<- hw1,<- hg] at hmk
 rw [hN,<- hg]
 have HB:=Aside0.mk (show UBlk w1 g (packTo bits 0) by rw [packTo_zero,hn,hN,hw1,hg];exact Blk.new _ _ _)
 have HBel:=Aside0.mk (show Below g w w1 by rw [hw1,hg];exact below_alloc (Below.refl _ _) _)
 have HC:=Aside0.mk (show ∀ W,Below g w W->ReadsOf Value.bool false W A n bits from fun W hb=>Kd.reads_of_C (Kd.C_below hC (by rw [hg] at hb;exact hb)))
 have HN:=Aside0.mk hn
 have HNN:=Aside0.mk hN
 have HGE:=Aside0.mk hg
 clear hw1 hg hC hn hN
 go_enter Tryz.func68,Tryz.ntmps68
 go_wp2_with fail
 clear hmk hN8
 go_loopw [12] (fun vi wr=>∃ i:Nat,vi=.int .i64 (i:Int)/\i<=N/\Aside0 (UBlk wr g (packTo bits i))/\Aside0 (Below g w wr)) (fun vi _=>(N-intOf vi).toNat)
 case atStart=>exact⟨0,rfl,Nat.zero_le _,HB,HBel⟩
 case round=>
  clear HB HBel
  obtain⟨i,rfl,hi,HB,HBel⟩:=hrel
  by_cases hin:i<N
  ·have HI:=Aside0.mk (show i<bits.length/8 by rw [HN.out,HNN.out];exact hin)
   go_wp2_with fail
   have HB0:=Aside0.mk (show UBlk wr g ((packTo bits i).set i (bval (seg bits (8*i) 0))) by
    have e:bval (seg bits (8*i) 0)=0:=by unfold seg;simp [bval]
    rw [e,packTo_set0 _ _ HI.out];exact HB.out)
   go_loopw [5] (fun vk wx=>∃ k:Nat,vk=.int .i64 (k:Int)/\k<=8/\Aside0 (UBlk wx g ((packTo bits i).set i (bval (seg bits (8*i) k))))/\Aside0 (Below g w wx)) (fun vk _=>(8-intOf vk).toNat)
   case atStart=>exact⟨0,rfl,Nat.zero_le _,HB0,HBel⟩
   case round=>
    clear HB0 HBel HB
    obtain⟨k,rfl,hk,HB,HBel⟩:=hrel
    by_cases hk8:k<8
    ·have hlen:(packTo bits i).length=N:=by rw [packTo_len _ _ (Nat.le_of_lt HI.out),HN.out,HNN.out]
     obtain⟨a,ha⟩:∃ a,bval (seg bits (8*i) k)=a:=⟨_,rfl⟩
     have ha8:a<128:=by
      rw [<- ha]
      refine Nat.lt_of_lt_of_le (bval_lt _) (show (2:Nat) ^ (seg bits (8*i) k).length<=2 ^ 7 from Nat.pow_le_pow_right (by decide) (by unfold seg;simp;omega))
     obtain⟨p,hp⟩:∃ p,8*i+k=p:=⟨_,rfl⟩
     have hpn:p<n:=by omega
     have hpi:8*(i:Int)+(k:Int)=(p:Int):=by omega
     obtain⟨b,hb⟩:∃ b,bits.getD p false=b:=⟨_,rfl⟩
     have HNX:=Aside0.mk (show bval (seg bits (8*i) (k+1))=2*a+b.toNat by rw [seg_next bits (8*i) k (by rw [HN.out];omega),ha,hp,hb])
     obtain⟨ad,e0,hcell⟩:=(HC.out _ HBel.out).2.2 (by omega)
     subst e0
     have r0:=hcell p hpn
     rw [hb] at r0
     have hw0:=((HC.out w (Below.refl _ _)).2.2 (by omega))
     have hadg:(ad.add p).block≠g:=by
      obtain⟨ad',e1,hc1⟩:=hw0
      injection e1 with e1
      subst e1
      have:=World.block_lt_of_cell? _ _ (hc1 p hpn)
      have h2:=HGE.out
      omega
     have r1:∀ u,(wr.setCell ⟨g,i,none⟩ u).cell? (ad.add p)=some (.bool b):=fun u=>by
      rw [World.cell?_setCell_other _ _ _ _ (fun e=>hadg (by rw [<- e]))]
      exact r0
     have hB1:=HB.out
     rw [ha] at hB1
     have y1:wr.cell? ⟨g,i,none⟩=some (.int .u8 (a:Int)):=by
      have:=UBlk.cell hB1 i (by rw [List.length_set,hlen];exact hin)
      rw [List.getD_eq_getElem?_getD,List.getElem?_set_self (by rw [hlen];exact hin)] at this
      exact this
     have y2:wr.frozen? ⟨g,i,none⟩=false:=Blk.frozen hB1 i
     have HSET:=Aside0.mk (show ∀ x y:Nat,UBlk ((wr.setCell ⟨g,i,none⟩ (.int .u8 (x:Int))).setCell ⟨g,i,none⟩ (.int .u8 (y:Int))) g ((packTo bits i).set i y) from fun x y=>by
      have:=(hB1.set i x).set i y
      simpa [List.set_set] using this)
     have HSET1:=Aside0.mk (show ∀ x:Nat,UBlk (wr.setCell ⟨g,i,none⟩ (.int .u8 (x:Int))) g ((packTo bits i).set i x) from fun x=>by
      have:=hB1.set i x
      simpa [List.set_set] using this)
     clear ha hp hb hcell hw0 hadg hB1 hlen r0
     cases b
     ·go_wp2
      go_roundw
      case rel=>exact⟨k+1,by go_num,by omega,⟨by rw [HNX.out];have:=HSET1.out (2*a);rw [show ((2*a:Nat):Int)=(a:Int)*2 by omega] at this;exact this⟩,⟨Below.setc HBel.out (Nat.le_refl _) _⟩⟩
      case measure=>simp [intOf]<;>omega
     ·go_wp2
      go_roundw
      case rel=>exact⟨k+1,by go_num,by omega,⟨by rw [HNX.out];have:=HSET.out (2*a) (2*a+1);rw [show ((2*a:Nat):Int)=(a:Int)*2 by omega,show ((2*a+1:Nat):Int)=(a:Int)*2+1 by omega] at this;exact this⟩,⟨Below.setc (Below.setc HBel.out (Nat.le_refl _) _) (Nat.le_refl _) _⟩⟩
      case measure=>simp [intOf]<;>omega
    ·have:k=8:=by omega
     subst this
     go_wp2
     go_roundw
     case rel=>exact⟨i+1,by go_num,by omega,⟨by rw [<- packTo_set _ _ HI.out];exact HB.out⟩,HBel⟩
     case measure=>simp [intOf]<;>omega
  ·have:N=i:=by omega
   subst this
   go_wp2
   go_ret
   exact⟨rfl,by rw [<- packTo_all,HN.out,HNN.out];exact HB.out,HBel.out⟩
end Go.Proofs.YtgccjgpdjkhpdaaGreat.B
