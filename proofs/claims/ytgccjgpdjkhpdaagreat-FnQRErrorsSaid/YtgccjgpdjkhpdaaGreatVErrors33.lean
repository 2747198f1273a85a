import Derived.Laws.BitsAllLaws
import Derived.Maps.OwnOps
import Derived.Maps.OwnSet
import Derived.Test.YtgccjgpdjkhpdaaGreatVErrors32
open Go.Proofs.YtgccjgpdjkhpdaaGreatW.PrintWords.Aside0 renaming mk→Mw
open List renaming range→Mx,getD_eq_getElem?_getD→My,length_append→Mz,getElem?_eq_getElem→MA,replicate→MC,append_nil→MD,range_succ→ME,map_append→MH,append_assoc→MI,map_nil→MJ,flatMap_nil→MK,length_map→ML,length_range→MM,flatMap_cons→MO,map_cons→MQ,take_of_length_le→MR,getElem?_map→MS,flatMap_append→MT,set_append_right→MU,length_set→MV,length_tail→MY,getElem?_eq_none→MZ,range_zero→M0,getElem?_set_self→M1,take_succ_eq_append_getElem→M3,getElem?_take_of_lt→M4,getElem?_range→M5
open Nat renaming le_refl→MB,zero_le→MF,lt_of_lt_of_le→MG,zero_add→MN,sub_self→MP
open Option renaming getD_some→MW
/-! Own texts of this claim, part 33. -/
namespace Go.Proofs.YtgccjgpdjkhpdaaGreat.B
open Go.RowKit Go.Proofs.YtgccjgpdjkhpdaaGreatW.PrintWords Go.Proofs.YtgccjgpdjkhpdaaGreatW.PrintLast Go.Proofs.YtgccjgpdjkhpdaaGreatW.PrintMore
set_option linter.unusedVariables false
set_option linter.unusedSimpArgs false
def dX (bits:List Bool):List Nat:=(Mx (bits.length/8)).map fun j=>bG (seg bits (8*j) 8)
def fe (bits:List Bool)(i:Nat):List Nat:=(Mx i).map (fun j=>bG (seg bits (8*j) 8))++MC (bits.length/8-i) 0
theorem Im (bits:List Bool)(i:Nat)(h:i<=bits.length/8):(fe bits i).length=bits.length/8:=by simp [fe];omega
theorem Ip (bits:List Bool):fe bits (bits.length/8)=dX bits:=by simp [fe,dX]
theorem Iq (bits:List Bool):fe bits 0=MC (bits.length/8) 0:=by simp [fe]
theorem Ir (bits:List Bool)(i:Nat)(h:i<bits.length/8):(fe bits i).set i (bG (seg bits (8*i) 8))=fe bits (i+1):=by
 unfold fe;have hl:((Mx i).map (fun j=>bG (seg bits (8*j) 8))).length=i:=by simp
 rw [MU _ _ (by omega),hl,MP,show bits.length/8-i=(bits.length/8-(i+1))+1 by omega,List.replicate_succ,List.set_cons_zero,ME,MH,MI];rfl
theorem It (bits:List Bool)(i:Nat)(h:i<bits.length/8):(fe bits i).set i 0=fe bits i:=by
 unfold fe;have hl:((Mx i).map (fun j=>bG (seg bits (8*j) 8))).length=i:=by simp
 rw [MU _ _ (by omega),hl,MP,show bits.length/8-i=(bits.length/8-(i+1))+1 by omega,List.replicate_succ,List.set_cons_zero]
theorem Iu (bits:List Bool)(s k:Nat)(h:s+k<bits.length):bG (seg bits s (k+1))=2*bG (seg bits s k)+(bits.getD (s+k) false).toNat:=by
 rw [yG,rb];have e:seg bits (s+k) 1=[bits.getD (s+k) false]:=by
  unfold seg;rw [List.drop_eq_getElem_cons h,My,MA h];rfl
 rw [e];simp only [List.length_singleton,Nat.pow_one];have:bG [bits.getD (s+k) false]=(bits.getD (s+k) false).toNat:=by simp [bG]
 omega
theorem Iv (bits:List Bool):ab 8 (dX bits):=by
 intro x hx;unfold dX at hx;obtain⟨j,_,rfl⟩:=List.mem_map.1 hx;refine MG (rc _) (Nat.pow_le_pow_right (by decide) ?_);unfold seg;simp;omega
set_option maxHeartbeats 2000000 in
set_option maxRecDepth 8000 in
theorem zy (w:World)(A:Option Addr)(c n:Nat)(bits:List Bool)(hn:bits.length=n)(hC:Kd.C Kd.bool w A n bits)(hl:n<=1000000) :
  Calls Tryz.prog 68 #[.slice A n c] w fun e w'=>e=.returned (.slice (some ⟨w.heap.size,0,none⟩) (n/8) (n/8))/\aA w' w.heap.size (dX bits)/\Below w.heap.size w w':=by
 obtain⟨N,hN⟩:∃ N,n/8=N:=⟨_,rfl⟩;have hmk:=nc N (by omega) w;have hN8:(n:Int)/8=(N:Int):=by omega
 have h8:8*N<=n:=by omega
 obtain⟨w1,hw1⟩:∃ w1,w1=w.alloc (.cells (ac .u8 (ak (MC N 0))).toArray 5):=⟨_,rfl⟩;obtain⟨g,hg⟩:∃ g,g=w.heap.size:=⟨_,rfl⟩;rw [<- hw1,<- hg] at hmk;rw [hN,<- hg];have HB:=Mw (show aA w1 g (fe bits 0) by rw [Iq,hn,hN,hw1,hg];exact Blk.new _ _ _)
 have HBel:=Mw (show Below g w w1 by rw [hw1,hg];exact ai (Below.refl _ _) _)
 have HC:=Mw (show ∀ W,Below g w W->dp Value.bool false W A n bits from fun W hb=>Kd.mq (Kd.bB hC (by rw [hg] at hb;exact hb)))
 have HN:=Mw hn;have HNN:=Mw hN;have HGE:=Mw hg;clear hw1 hg hC hn hN
 go_enter Tryz.func68,Tryz.ntmps68
 go_wp2_with fail
 clear hmk hN8
 go_loopw [12] (fun vi wr=>∃ i:Nat,vi=.int .i64 (i:Int)/\i<=N/\Aside0 (aA wr g (fe bits i))/\Aside0 (Below g w wr)) (fun vi _=>(N-intOf vi).toNat)
 case atStart=>exact⟨0,rfl,MF _,HB,HBel⟩
 case round=>
  clear HB HBel;obtain⟨i,rfl,hi,HB,HBel⟩:=hrel;by_cases hin:i<N;rotate_left
  ·have:N=i:=by omega
   subst this
   go_wp2
   go_ret
   exact⟨rfl,by rw [<- Ip,HN.out,HNN.out];exact HB.out,HBel.out⟩
  have HI:=Mw (show i<bits.length/8 by rw [HN.out,HNN.out];exact hin)
  go_wp2_with fail
  have HB0:=Mw (show aA wr g ((fe bits i).set i (bG (seg bits (8*i) 0))) by
   have e:bG (seg bits (8*i) 0)=0:=by unfold seg;simp [bG]
   rw [e,It _ _ HI.out];exact HB.out)
  go_loopw [5] (fun vk wx=>∃ k:Nat,vk=.int .i64 (k:Int)/\k<=8/\Aside0 (aA wx g ((fe bits i).set i (bG (seg bits (8*i) k))))/\Aside0 (Below g w wx)) (fun vk _=>(8-intOf vk).toNat)
  case atStart=>exact⟨0,rfl,MF _,HB0,HBel⟩
  case round=>
   clear HB0 HBel HB;obtain⟨k,rfl,hk,HB,HBel⟩:=hrel;by_cases hk8:k<8;rotate_left
   ·have:k=8:=by omega
    subst this
    go_wp2
    go_roundw
    case rel=>exact⟨i+1,by go_num,by omega,⟨by rw [<- Ir _ _ HI.out];exact HB.out⟩,HBel⟩
    case measure=>simp [intOf]<;>omega
   have hlen:(fe bits i).length=N:=by rw [Im _ _ (Nat.le_of_lt HI.out),HN.out,HNN.out]
   obtain⟨a,ha⟩:∃ a,bG (seg bits (8*i) k)=a:=⟨_,rfl⟩;have ha8:a<128:=by
    rw [<- ha];refine MG (rc _) (show (2:Nat) ^ (seg bits (8*i) k).length<=2 ^ 7 from Nat.pow_le_pow_right (by decide) (by unfold seg;simp;omega))
   obtain⟨p,hp⟩:∃ p,8*i+k=p:=⟨_,rfl⟩;have hpn:p<n:=by omega
   have hpi:8*(i:Int)+(k:Int)=(p:Int):=by omega
   obtain⟨b,hb⟩:∃ b,bits.getD p false=b:=⟨_,rfl⟩;have HNX:=Mw (show bG (seg bits (8*i) (k+1))=2*a+b.toNat by rw [Iu bits (8*i) k (by rw [HN.out];omega),ha,hp,hb])
   obtain⟨ad,e0,hcell⟩:=(HC.out _ HBel.out).2.2 (by omega);subst e0;have r0:=hcell p hpn;rw [hb] at r0;have hw0:=((HC.out w (Below.refl _ _)).2.2 (by omega));have hadg:(ad.add p).block≠g:=by
    obtain⟨ad',e1,hc1⟩:=hw0;injection e1 with e1;subst e1;have:=World.block_lt_of_cell? _ _ (hc1 p hpn);have h2:=HGE.out;omega
   have r1:∀ u,(wr.setCell ⟨g,i,none⟩ u).cell? (ad.add p)=some (.bool b):=fun u=>by
    rw [World.cell?_setCell_other _ _ _ _ (fun e=>hadg (by rw [<- e]))];exact r0
   have hB1:=HB.out;rw [ha] at hB1;have y1:wr.cell? ⟨g,i,none⟩=some (.int .u8 (a:Int)):=by
    have:=aA.cell hB1 i (by rw [MV,hlen];exact hin)
    rw [My,M1 (by rw [hlen];exact hin)] at this
    exact this
   have y2:wr.frozen? ⟨g,i,none⟩=false:=Blk.frozen hB1 i;have HSET:=Mw (show ∀ x y:Nat,aA ((wr.setCell ⟨g,i,none⟩ (.int .u8 (x:Int))).setCell ⟨g,i,none⟩ (.int .u8 (y:Int))) g ((fe bits i).set i y) from fun x y=>by
    have:=(hB1.set i x).set i y;simpa [List.set_set] using this)
   have HSET1:=Mw (show ∀ x:Nat,aA (wr.setCell ⟨g,i,none⟩ (.int .u8 (x:Int))) g ((fe bits i).set i x) from fun x=>by
    have:=hB1.set i x;simpa [List.set_set] using this)
   clear ha hp hb hcell hw0 hadg hB1 hlen r0;cases b
   ·go_wp2
    go_roundw
    case rel=>exact⟨k+1,by go_num,by omega,⟨by rw [HNX.out];have:=HSET1.out (2*a);rw [show ((2*a:Nat):Int)=(a:Int)*2 by omega] at this;exact this⟩,⟨Below.setc HBel.out (MB _) _⟩⟩
    case measure=>simp [intOf]<;>omega
   go_wp2
   go_roundw
   case rel=>exact⟨k+1,by go_num,by omega,⟨by rw [HNX.out];have:=HSET.out (2*a) (2*a+1);rw [show ((2*a:Nat):Int)=(a:Int)*2 by omega,show ((2*a+1:Nat):Int)=(a:Int)*2+1 by omega] at this;exact this⟩,⟨Below.setc (Below.setc HBel.out (MB _) _) (MB _) _⟩⟩
   case measure=>simp [intOf]<;>omega
def iP (bits:List Bool)(room:Nat):List Bool :=
 bits++aD 0 (min 4 (8*room-bits.length))++aD 0 ((8-(bits++aD 0 (min 4 (8*room-bits.length))).length%8)%8)
def fU (i:Nat):Nat:=if i%2=0 then 236 else 17
def jc (bits:List Bool)(room:Nat):List Nat:=dX (iP bits room)++(Mx (room-(dX (iP bits room)).length)).map fU
theorem t9 (bits:List Bool)(room:Nat)(h:bits.length<=8*room):(iP bits room).length%8=0/\(iP bits room).length<=8*room/\bits.length<=(iP bits room).length:=by
 unfold iP;rw [Mz,bV,Mz,bV];omega
theorem ua (bits:List Bool):(dX bits).length=bits.length/8:=by simp [dX]
theorem Iw (bits:List Bool)(room:Nat)(h:bits.length<=8*room):(jc bits room).length=room:=by
 have:=t9 bits room h;unfold jc;rw [Mz,ML,MM,ua];omega
theorem Ix (bits:List Bool)(room:Nat):ab 8 (jc bits room):=by
 intro x hx;unfold jc at hx;rcases List.mem_append.1 hx with h | h
 ·exact Iv _ x h
 obtain⟨i,_,rfl⟩:=List.mem_map.1 h;unfold fU
 split<;>decide
theorem Iy:∀ l:List Bool,l.length=8->jb (bG l)=l:=by
 intro l h;have h1:bG l<2 ^ 8:=by have:=rc l;rwa [h] at this
 have key:∀ a b c d e f g i:Bool,jb (bG [a,b,c,d,e,f,g,i])=[a,b,c,d,e,f,g,i]:=by decide
 match l,h with
 | [a,b,c,d,e,f,g,i],_=>exact key a b c d e f g i
theorem zz (a b:List Nat):aZ (a++b)=aZ a++aZ b:=by simp [aZ]
theorem Iz (bits:List Bool):∀ k,8*k<=bits.length->aZ ((Mx k).map fun j=>bG (seg bits (8*j) 8))=bits.take (8*k):=by
 intro k
 induction k with
 | zero=>intro _;simp [aZ]
 | succ k ih=>
  intro h;rw [ME,MH,zz,ih (by omega)];have e:aZ ([k].map fun j=>bG (seg bits (8*j) 8))=seg bits (8*k) 8:=by
   simp only [MQ,MJ,aZ,MO,MK,MD];exact Iy _ (yF bits (8*k) 8 (by omega))
  rw [e];unfold seg;rw [show 8*(k+1)=8*k+8 by omega,List.take_add]
theorem IA (bits:List Bool)(h:bits.length%8=0):aZ (dX bits)=bits:=by
 unfold dX;rw [Iz bits _ (by omega),MR (by omega)]
theorem IB (bits:List Bool)(room:Nat)(h:bits.length<=8*room):∃ post,aZ (jc bits room)=bits++post/\(post.length<4\/∃ q,post=aD 0 4++q):=by
 have hl:=t9 bits room h;refine⟨aD 0 (min 4 (8*room-bits.length))++(aD 0 ((8-(bits++aD 0 (min 4 (8*room-bits.length))).length%8)%8)++aZ ((Mx (room-(dX (iP bits room)).length)).map fU)),?_,?_⟩
 ·unfold jc;rw [zz,IA _ hl.1];generalize aZ ((Mx (room-(dX (iP bits room)).length)).map fU)=T;unfold iP;simp only [MI]
 by_cases h4:bits.length+4<=8*room
 ·right;rw [show min 4 (8*room-bits.length)=4 by omega];exact⟨_,rfl⟩
 left;have e:(iP bits room).length=8*room:=by
  have:=hl.1;have:=hl.2.2;have:=hl.2.1;by_cases hb:bits.length=8*room
  ·omega
  unfold iP;rw [Mz,bV,Mz,bV];omega
 rw [Mz,Mz,mJ,ML,MM,ua,e,bV,bV,Mz,bV];omega
theorem cJ.reads {w:World}{base:Nat}{v:Value}{xs:List Bool}(h:cJ w base v xs)(hl:xs.length<=100000000):∃ A c,v=.slice A xs.length c/\xs.length<=c/\Kd.C Kd.bool w A xs.length xs:=by
 have hr:Kd.R Kd.bool 4 w base (fun _=>True) v xs:=Kd.ov h (fun _ _=>trivial);exact Kd.kB hr
theorem IC {w:World}{q base:Nat}{xs:List Int}(h:Blk w q 5 (ac .u8 xs).toArray)(hb:base<=q)(hl:xs.length<=1000000):w.ownsRow base 5 1 (.slice (some ⟨q,0,none⟩) xs.length xs.length) xs.length (ac .u8 xs) :=
 ⟨by simp [ac],.inr ⟨q,xs.length,(ac .u8 xs).toArray,rfl,hb,h,MB _,by simp [maxLen];omega,by simp [ac],by rw [Nat.mul_one];exact MR (by simp [ac])⟩⟩
theorem zA {w:World}{g base:Nat}{xs:List Nat}(h:aA w g xs)(hb:base<=g)(hl:xs.length<=1000000):w.ownsRow base 5 1 (.slice (some ⟨g,0,none⟩) xs.length xs.length) xs.length (ac .u8 (ak xs)):=by
 have:=IC (w:=w) (q:=g) (base:=base) (xs:=ak xs) h hb (by rw [ey];exact hl)
 rwa [ey] at this
theorem zB (W:World):(Instr.index 124 (.agg #[.int .u8 236,.int .u8 17]) (.int .i64 0)).run Tryz.prog W=.ok (.int .u8 236) W:=by kernel_rfl
theorem zC (W:World):(Instr.index 124 (.agg #[.int .u8 236,.int .u8 17]) (.int .i64 1)).run Tryz.prog W=.ok (.int .u8 17) W:=by kernel_rfl
theorem pg (a b:List Nat):ak (a++b)=ak a++ak b:=by simp [ak]
theorem cJ.shape {w:World}{base:Nat}{v:Value}{xs:List Bool}(h:cJ w base v xs):∃ A c,v=.slice A xs.length c:=eh h
theorem ph (w0 w:World)(base n k:Nat)(v:Value)(xs:List Bool)(a b:Int)(ha:a=(n:Int))(hb:b=(k:Int))(hO:cJ w base v xs)(hB:Below base w0 w)(hbase:base<=w.heap.size)(hn:n<2147483648)(hk:k<=60)(hxl:xs.length<=10000000) :
  Calls Tryz.prog 66 #[v,.int .i64 a,.int .i64 b] w fun e w'=>∃ v',e=.returned v'/\cJ w' base v' (xs++aD n k)/\Below base w0 w'/\eS w w' v v':=by
 subst ha hb;exact tM w0 w base n k v xs hO hB hbase hn hk hxl
set_option maxHeartbeats 1000000 in
set_option maxRecDepth 8000 in
theorem ID (w:World)(A:Option Addr)(c n v l:Nat)(segs:List F.bl)(hS:Kd.C F.dU w A n segs)(hn:segs.length=n)(hv:1<=v/\v<=40)(hl:l<4)(hs:∀ s∈segs,lh s v)(hn2:n<=200)
  (hfit:(cO (segs.map bI) v).length<=8*cz v l) :
  Calls Tryz.prog 32 #[.slice A n c,.int .i64 (v:Int),.int .i64 (l:Int)] w fun e w'=>∃ v',e=.returned (.tuple #[v',.bool true])/\w'.ownsRow w.heap.size 5 1 v' (cz v l) (ac .u8 (ak (jc (cO (segs.map bI) v) (cz v l))))/\Below w.heap.size w w':=by
 have k1:=zt w A c n v segs hS hn hv hs hn2;have K22:=Mw (fun W=>zx W v l hv hl);obtain⟨bits,hbits⟩:∃ bits,cO (segs.map bI) v=bits:=⟨_,rfl⟩;have L:=eD v l hv hl;have hroom:cz v l<=5000:=by
  have h1:=L.tot;have h2:=(jp v hv).2;unfold cz;omega
 obtain⟨room,hr⟩:∃ room,cz v l=room:=⟨_,rfl⟩;rw [hbits] at k1 hfit ⊢;rw [hr] at K22 hfit hroom ⊢;obtain⟨m,hm⟩:∃ m,bits.length=m:=⟨_,rfl⟩;rw [hm] at hfit;have HM:=Mw hm;clear hS hn hs hbits L hr hv hl hm
 go_enter Tryz.func32,Tryz.ntmps32
 go_wp2_with fail
 refine k1.mono ?_;rintro e w1 ⟨v1,rfl,hO1,hB1⟩;obtain⟨A1,c1,hv1⟩:=hO1.shape;rw [HM.out] at hv1;subst hv1;have HO1:=Mw hO1;have HB1:=Mw hB1;clear hO1 hB1 k1
 go_wp2_with fail
 refine (K22.out w1).mono ?_;rintro e w2 ⟨rfl,hB2⟩;have HO2:=Mw (HO1.out.under hB2);have HB2:=Mw (HB1.out.trans (hB2.mono HB1.out.size));clear hB2;obtain⟨r4,hr4⟩:∃ r4:Nat,min 4 (8*room-m)=r4:=⟨_,rfl⟩;have hr44:r4<=4:=by omega
 obtain⟨bits2,hb2⟩:∃ bits2,bits++aD 0 r4=bits2:=⟨_,rfl⟩;have HE2:=Mw (show bits++aD 0 (min 4 (8*room-bits.length))=bits2 by rw [HM.out,hr4,hb2]);obtain⟨m2,hm2⟩:∃ m2,bits2.length=m2:=⟨_,rfl⟩;have hm2l:m2<=8*room:=by rw [<- hm2,<- hb2,Mz,bV,HM.out];omega
 have HM2:=Mw hm2;have hfi:(m:Int)<=8*(room:Int):=by omega
 have hcs:(r4=4/\m+4<=8*room)\/(r4<=3/\(8*(room:Int)-(m:Int))=(r4:Int)):=by omega
 obtain⟨r5,hr5⟩:∃ r5:Nat,(8-m2%8)%8=r5:=⟨_,rfl⟩;have hr58:r5<=7:=by omega
 obtain⟨bits3,hb3⟩:∃ bits3,bits2++aD 0 r5=bits3:=⟨_,rfl⟩;have HE3:=Mw (show iP bits room=bits3 by unfold iP;rw [HE2.out,HM2.out,hr5,hb3])
 obtain⟨m3,hm3⟩:∃ m3,bits3.length=m3:=⟨_,rfl⟩;have HM3:=Mw hm3;have h5i:-((m2:Int)%8)%8=(r5:Int):=by omega
 have hm3l:m3<=8*room:=by have:=t9 bits room (by rw [HM.out];exact hfit);rw [HE3.out,hm3] at this;omega
 obtain⟨N3,hN3⟩:∃ N3,m3/8=N3:=⟨_,rfl⟩;have hN3r:N3<=room:=by omega
 have HN3:=Mw hN3;have HB3E:=Mw hb3;have HPL:=Mw (show (dX bits3).length=N3 by rw [ua,hm3,hN3]);have HDW:=Mw (show jc bits room=dX bits3++(Mx (room-N3)).map fU by unfold jc;rw [HE3.out,HPL.out])
 have H5I:=Mw h5i;clear hr5 hb3 hm3 hN3 h5i;clear hr4 hm2;rcases hcs with⟨rfl,h4⟩ | ⟨h4,h5⟩
 ·have k2:=ph w w2 w.heap.size 0 4 (.slice A1 m c1) bits 0 4 rfl rfl HO2.out HB2.out HB2.out.size (by decide) (by omega) (by rw [HM.out];omega)
  rw [hb2] at k2;clear hb2;have h5i:=H5I.out
  go_wp2_with fail
  refine k2.mono ?_;rintro e w3 ⟨v3,rfl,hO3,hB3,hG3⟩;obtain⟨A3,c3,hv3⟩:=hO3.shape;rw [HM2.out] at hv3;subst hv3;have HO3:=Mw hO3;have HB3:=Mw hB3;clear hO3 hB3 hG3;clear k2;have k3:=ph w w3 w.heap.size 0 r5 (.slice A3 m2 c3) bits2 0 (r5:Int) rfl rfl HO3.out HB3.out HB3.out.size (by decide) (by omega) (by rw [HM2.out];omega)
  rw [HB3E.out] at k3
  go_wp2_with fail
  refine k3.mono ?_;rintro e w4 ⟨v4,rfl,hO4,hB4,hG4⟩;obtain⟨A4,c4,hv4⟩:=hO4.shape;rw [HM3.out] at hv4;subst hv4;have HO4:=Mw hO4;have HB4:=Mw hB4;clear hO4 hB4 hG4;clear k3 h5i;obtain⟨A5,c5,hv5,hc5,hC5⟩:=HO4.out.reads (by rw [HM3.out];omega)
  rw [HM3.out] at hv5 hc5 hC5;injection hv5 with e1 e2 e3;subst e1 e3;have k5:=zy w4 A4 c4 m3 bits3 HM3.out hC5 (by omega);rw [HN3.out] at k5;clear hC5 hc5 e2
  go_wp2_with fail
  refine k5.mono ?_;rintro e w5 ⟨rfl,hU5,hB5⟩;have HU5:=Mw hU5;have HB5:=Mw (HB4.out.trans (hB5.mono HB4.out.size));clear hU5 hB5;clear k5
  go_wp2_with fail
  have HO5:=Mw (show w5.ownsRow w.heap.size 5 1 (.slice (some ⟨w4.heap.size,0,none⟩) N3 N3) N3 (ac .u8 (ak (dX bits3++(Mx 0).map fU))) by
   have h:=zA (base:=w.heap.size) HU5.out HB4.out.size (by rw [HPL.out];omega)
   rw [HPL.out] at h;simpa using h)
  obtain⟨g5,hg5⟩:∃ g5,g5=w4.heap.size:=⟨_,rfl⟩;rw [<- hg5] at HO5 ⊢;clear hg5
  go_loopw [11,12] (fun vo vi wr=>∃ (i k c':Nat) (A':Option Addr),vi=.int .i64 (i:Int)/\vo=.slice A' k c'/\k=N3+i/\k<=room/\Aside0 (wr.ownsRow w.heap.size 5 1 (.slice A' k c') k (ac .u8 (ak (dX bits3++(Mx i).map fU))))/\Aside0 (Below w.heap.size w wr)) (fun vo _ _=>(room-fR vo).toNat)
  case atStart=>exact⟨0,N3,N3,_,rfl,rfl,by omega,hN3r,HO5,HB5⟩
  case round=>
   clear HO5 HB5 HU5;obtain⟨i,k,c',A',rfl,rfl,hk,hkr,HO,HB⟩:=hrel;have HKI:=Mw hk;clear hk;by_cases hlt:k<room;rotate_left
   ·have:k=room:=by omega
    subst this
    go_wp2
    go_ret2
    exact⟨_,rfl,by rw [HDW.out,show k-N3=i by have:=HKI.out;omega];exact HO.out,HB.out⟩
   obtain⟨j,hj⟩:∃ j,i%2=j:=⟨_,rfl⟩;have hji:(i:Int)%2=(j:Int):=by omega
   obtain⟨x,hx⟩:∃ x,fU i=x:=⟨_,rfl⟩;have hidx:∀ W,(Instr.index 124 (.agg #[.int .u8 236,.int .u8 17]) (.int .i64 (j:Int))).run Tryz.prog W=.ok (.int .u8 (x:Int)) W:=by
    intro W;rw [<- hx];unfold fU;have:j=0\/j=1:=by omega
    rcases this with rfl | rfl
    ·rw [if_pos hj];exact zB W
    rw [if_neg (by omega)];exact zC W
   have HX:=Mw hx;have hi5:i<=5000:=by have:=HKI.out;omega
   clear hj hx;have HLk:=Mw (show (ak (dX bits3++(Mx i).map fU)).length=k by rw [ey,Mz,ML,MM,HPL.out,HKI.out])
   go_wp2_with (first | ((with_reducible refine bD (b:=.append) (xs:=#[.tmp 54,.tmp 59]) rfl ?_);at_builtin;refine eI (w0:=w) w.heap.size rfl (.tmp 54) (.tmp 59) 26 5 .u8 1 rfl Tryz.underlying26 F.cS (by decide) (.slice A' k c') (ak (dX bits3++(Mx i).map fU)) (x:Int) rfl rfl ?aO HB.out HB.out.size ?aL ?_;(case aO=>(rw [HLk.out];exact HO.out));(case aL=>(rw [HLk.out];omega));intro v6 w6 ho6 hb6 hg6 hat6;rw [Mz,HLk.out] at ho6;obtain⟨A6,c6,hv6⟩:=eh ho6;subst hv6;have HO6:=Mw ho6;have HB6:=Mw hb6;clear ho6 hb6 hg6 hat6))
   clear hidx hji
   go_roundw
   case rel=>exact⟨i+1,k+1,c6,A6,by go_num,rfl,by have:=HKI.out;omega,by omega,⟨by have:=HO6.out;rw [ME,MH,<- MI,pg];simpa [ak,HX.out] using this⟩,HB6⟩
   case measure=>simp [fR]<;>omega
 have k2:=ph w w2 w.heap.size 0 r4 (.slice A1 m c1) bits 0 (r4:Int) rfl rfl HO2.out HB2.out HB2.out.size (by decide) (by omega) (by rw [HM.out];omega)
 rw [hb2] at k2;clear hb2;have h5i:=H5I.out
 go_wp2_with fail
 refine k2.mono ?_;rintro e w3 ⟨v3,rfl,hO3,hB3,hG3⟩;obtain⟨A3,c3,hv3⟩:=hO3.shape;rw [HM2.out] at hv3;subst hv3;have HO3:=Mw hO3;have HB3:=Mw hB3;clear hO3 hB3 hG3;clear k2;have k3:=ph w w3 w.heap.size 0 r5 (.slice A3 m2 c3) bits2 0 (r5:Int) rfl rfl HO3.out HB3.out HB3.out.size (by decide) (by omega) (by rw [HM2.out];omega)
 rw [HB3E.out] at k3
 go_wp2_with fail
 refine k3.mono ?_;rintro e w4 ⟨v4,rfl,hO4,hB4,hG4⟩;obtain⟨A4,c4,hv4⟩:=hO4.shape;rw [HM3.out] at hv4;subst hv4;have HO4:=Mw hO4;have HB4:=Mw hB4;clear hO4 hB4 hG4;clear k3 h5i;obtain⟨A5,c5,hv5,hc5,hC5⟩:=HO4.out.reads (by rw [HM3.out];omega)
 rw [HM3.out] at hv5 hc5 hC5;injection hv5 with e1 e2 e3;subst e1 e3;have k5:=zy w4 A4 c4 m3 bits3 HM3.out hC5 (by omega);rw [HN3.out] at k5;clear hC5 hc5 e2
 go_wp2_with fail
 refine k5.mono ?_;rintro e w5 ⟨rfl,hU5,hB5⟩;have HU5:=Mw hU5;have HB5:=Mw (HB4.out.trans (hB5.mono HB4.out.size));clear hU5 hB5;clear k5
 go_wp2_with fail
 have HO5:=Mw (show w5.ownsRow w.heap.size 5 1 (.slice (some ⟨w4.heap.size,0,none⟩) N3 N3) N3 (ac .u8 (ak (dX bits3++(Mx 0).map fU))) by
  have h:=zA (base:=w.heap.size) HU5.out HB4.out.size (by rw [HPL.out];omega)
  rw [HPL.out] at h;simpa using h)
 obtain⟨g5,hg5⟩:∃ g5,g5=w4.heap.size:=⟨_,rfl⟩;rw [<- hg5] at HO5 ⊢;clear hg5
 go_loopw [11,12] (fun vo vi wr=>∃ (i k c':Nat) (A':Option Addr),vi=.int .i64 (i:Int)/\vo=.slice A' k c'/\k=N3+i/\k<=room/\Aside0 (wr.ownsRow w.heap.size 5 1 (.slice A' k c') k (ac .u8 (ak (dX bits3++(Mx i).map fU))))/\Aside0 (Below w.heap.size w wr)) (fun vo _ _=>(room-fR vo).toNat)
 case atStart=>exact⟨0,N3,N3,_,rfl,rfl,by omega,hN3r,HO5,HB5⟩
 case round=>
  clear HO5 HB5 HU5;obtain⟨i,k,c',A',rfl,rfl,hk,hkr,HO,HB⟩:=hrel;have HKI:=Mw hk;clear hk;by_cases hlt:k<room;rotate_left
  ·have:k=room:=by omega
   subst this
   go_wp2
   go_ret2
   exact⟨_,rfl,by rw [HDW.out,show k-N3=i by have:=HKI.out;omega];exact HO.out,HB.out⟩
  obtain⟨j,hj⟩:∃ j,i%2=j:=⟨_,rfl⟩;have hji:(i:Int)%2=(j:Int):=by omega
  obtain⟨x,hx⟩:∃ x,fU i=x:=⟨_,rfl⟩;have hidx:∀ W,(Instr.index 124 (.agg #[.int .u8 236,.int .u8 17]) (.int .i64 (j:Int))).run Tryz.prog W=.ok (.int .u8 (x:Int)) W:=by
   intro W;rw [<- hx];unfold fU;have:j=0\/j=1:=by omega
   rcases this with rfl | rfl
   ·rw [if_pos hj];exact zB W
   rw [if_neg (by omega)];exact zC W
  have HX:=Mw hx;have hi5:i<=5000:=by have:=HKI.out;omega
  clear hj hx;have HLk:=Mw (show (ak (dX bits3++(Mx i).map fU)).length=k by rw [ey,Mz,ML,MM,HPL.out,HKI.out])
  go_wp2_with (first | ((with_reducible refine bD (b:=.append) (xs:=#[.tmp 54,.tmp 59]) rfl ?_);at_builtin;refine eI (w0:=w) w.heap.size rfl (.tmp 54) (.tmp 59) 26 5 .u8 1 rfl Tryz.underlying26 F.cS (by decide) (.slice A' k c') (ak (dX bits3++(Mx i).map fU)) (x:Int) rfl rfl ?aO HB.out HB.out.size ?aL ?_;(case aO=>(rw [HLk.out];exact HO.out));(case aL=>(rw [HLk.out];omega));intro v6 w6 ho6 hb6 hg6 hat6;rw [Mz,HLk.out] at ho6;obtain⟨A6,c6,hv6⟩:=eh ho6;subst hv6;have HO6:=Mw ho6;have HB6:=Mw hb6;clear ho6 hb6 hg6 hat6))
  clear hidx hji
  go_roundw
  case rel=>exact⟨i+1,k+1,c6,A6,by go_num,rfl,by have:=HKI.out;omega,by omega,⟨by have:=HO6.out;rw [ME,MH,<- MI,pg];simpa [ak,HX.out] using this⟩,HB6⟩
  case measure=>simp [fR]<;>omega
theorem IE (m p:Nat)(F:aG m p):∀ (k a c:Nat),bN m p (k+1) a c=gl m p (bN m p k a (c/2)) ^^^ (if c.testBit 0 then a else 0):=by
 intro k
 induction k with
 | zero=>intro a c;simp [bN,pB,dj]
 | succ k ih=>
  intro a c;rw [bN,ih a c]
  conv=>rhs;rw [bN,uM]
  have e:(c/2).testBit k=c.testBit (k+1):=by rw [Nat.testBit_div_two]
  rw [e];have e2:gl m p (if c.testBit (k+1) then dj m p k a else 0)=if c.testBit (k+1) then dj m p (k+1) a else 0:=by
   split
   ·rfl
   exact pB
  rw [e2];rw [Nat.xor_assoc,Nat.xor_assoc,Nat.xor_comm (if c.testBit 0 then a else 0)]
def hm (a b k:Nat):Nat:=bN 8 285 k a (b/2 ^ (8-k))
theorem IG (a b:Nat):hm a b 0=0:=rfl
theorem IH (a b:Nat):hm a b 8=gm 8 285 a b:=by unfold hm gm;rw [MP,Nat.pow_zero,Nat.div_one]
theorem II (a b k:Nat)(h:k<8):hm a b (k+1)=gl 8 285 (hm a b k) ^^^ (if b.testBit (7-k) then a else 0):=by
 unfold hm;rw [IE 8 285 gh,Nat.div_div_eq_div_mul,show 2 ^ (8-(k+1))*2=2 ^ (8-k) by rw [<- Nat.pow_succ];congr 1;omega,Nat.testBit_div_two_pow,MN,show 8-(k+1)=7-k by omega]
theorem IJ (a b k:Nat)(ha:a<256):hm a b k<256:=AU gh k a _ ha
theorem IK (x:Nat)(h:x<256):gl 8 285 x=if 255<2*x then (2*x) ^^^ 285 else 2*x:=by
 have key:∀ y:Fin 256,gl 8 285 y.val=if 255<2*y.val then (2*y.val) ^^^ 285 else 2*y.val:=by decide +kernel
 exact key ⟨x,h⟩
theorem ub (w:World)(a b:Nat)(ha:a<256)(hb:b<256):Calls Tryz.prog 120 #[.int .i64 (a:Int),.int .i64 (b:Int)] w fun e w'=>e=.returned (.int .i64 ((gm 8 285 a b:Nat):Int))/\w=w':=by
 obtain⟨R,hR⟩:∃ R,gm 8 285 a b=R:=⟨_,rfl⟩;rw [hR];have HR:=Mw (show hm a b 8=R by rw [IH,hR]);have HA:=Mw ha;have HB:=Mw hb;clear hR
 go_enter Tryz.func120,Tryz.ntmps120
 go_wp2
 go_loop [5,6] (fun vo vi=>∃ k x:Nat,k<=8/\vi=.int .i64 (7-(k:Int))/\vo=.int .i64 (x:Int)/\Aside0 (hm a b k=x)) (fun _ vi=>(intOf vi+1).toNat)
 case atStart=>exact⟨0,0,by omega,by go_num,rfl,⟨IG a b⟩⟩
 case round=>
  obtain⟨k,x,hk,rfl,rfl,HX⟩:=hrel;by_cases hk8:k<8;rotate_left
  ·have:k=8:=by omega
   subst this
   go_wp2
   go_ret
   exact⟨by rw [<- HR.out,HX.out];rfl,rfl⟩
  have hx:x<256:=by rw [<- HX.out];exact IJ a b k HA.out
  obtain⟨j,hj⟩:∃ j:Nat,7-k=j:=⟨_,rfl⟩;have hj7:j<=7:=by omega
  have hji:(7:Int)-(k:Int)=(j:Int):=by omega
  have hn:=II a b k hk8;rw [HX.out,IK x hx,hj] at hn;obtain⟨t,ht⟩:∃ t,b.testBit j=t:=⟨_,rfl⟩;have hbit:=yV b j (by omega);rw [ht] at hn hbit;rw [hji];have HJ:=Mw hji;clear hj hji ht;by_cases hx2:255<2*x;rotate_left
  ·rw [if_neg hx2] at hn;obtain⟨y,hy⟩:∃ y,2*x=y:=⟨_,rfl⟩;rw [hy] at hn;have e1':(x:Int)*2=(y:Int):=by omega
   have hy2:y<=255:=by omega
   cases t
   ·rw [if_neg (by decide),Nat.xor_zero] at hn;have HN:=Mw hn;clear hn hy
    go_wp2
    clear hbit e1'
    go_round
    case rel=>exact⟨k+1,y,by omega,by have:=HJ.out;go_num,rfl,HN⟩
    case measure=>simp [intOf]<;>omega
   rw [if_pos rfl] at hn;have e2:=oa y a (by omega) (by omega);obtain⟨z,hz⟩:∃ z,y ^^^ a=z:=⟨_,rfl⟩;rw [hz] at e2 hn;have HN:=Mw hn;clear hn hy hz
   go_wp2
   clear hbit e1' e2
   go_round
   case rel=>exact⟨k+1,z,by omega,by have:=HJ.out;go_num,rfl,HN⟩
   case measure=>simp [intOf]<;>omega
  rw [if_pos hx2] at hn;have e1:=oa (2*x) 285 (by omega) (by omega);obtain⟨y,hy⟩:∃ y,(2*x) ^^^ 285=y:=⟨_,rfl⟩;rw [hy] at e1 hn;have e1':Go.bits .xor .i64 ((x:Int)*2) 285=(y:Int):=by rw [<- e1];congr 1;omega
  have hy9:y<65536:=by rw [<- hy];exact Nat.xor_lt_two_pow (n:=16) (by omega) (by omega)
  cases t
  ·rw [if_neg (by decide),Nat.xor_zero] at hn;have HN:=Mw hn;clear hn e1 hy
   go_wp2
   clear hbit e1'
   go_round
   case rel=>exact⟨k+1,y,by omega,by have:=HJ.out;go_num,rfl,HN⟩
   case measure=>simp [intOf]<;>omega
  rw [if_pos rfl] at hn;have e2:=oa y a (by omega) (by omega);obtain⟨z,hz⟩:∃ z,y ^^^ a=z:=⟨_,rfl⟩;rw [hz] at e2 hn;have HN:=Mw hn;clear hn e1 hy hz
  go_wp2
  clear hbit e1' e2
  go_round
  case rel=>exact⟨k+1,z,by omega,by have:=HJ.out;go_num,rfl,HN⟩
  case measure=>simp [intOf]<;>omega
theorem zD (n:Nat)(h:n<=1000000)(w:World):(Instr.makeSlice 93 (.int .i64 (n:Int)) (.int .i64 (n:Int))).run Tryz.prog w=.ok (.slice (some ⟨w.heap.size,0,none⟩) n n) (w.alloc (.cells (ac .i64 (ak (MC n 0))).toArray 3)):=by
 obtain⟨i,hi,hz,hs,hb⟩:=info_parts n9;have:=mH (P:=Tryz.prog) 93 3 i (.int .i64 0) Tryz.underlying93 hi hz .i64 .i64 n n (MB _) (by rw [hb];omega) (by omega) w
 have e:madeCells (Value.int .i64 0).cells (n*1)=(ac .i64 (ak (MC n 0))).toArray:=by
  apply Array.toList_inj.1;rw [Nat.mul_one];exact (toList_madeCells_one _ _).trans (by simp [ac,ak])
 rw [this,hs,e]
theorem IL (s:List Nat)(root k:Nat)(hk:k<s.length):(fy 8 285 s root).getD k 0=gm 8 285 (s.getD k 0) root ^^^ s.getD (k+1) 0:=by
 have hl:(fy 8 285 s root).length=s.length:=pF s root (by omega);rw [My,MA (by omega),MW];unfold fy;rw [List.getElem_zipWith,List.getElem_map];have e1:s.getD k 0=s[k]:=by rw [My,MA hk];rfl
 rw [e1];congr 1;by_cases h:k+1<s.length;rotate_left
 ·rw [List.getElem_append_right (by rw [MY];omega),My,MZ (by omega)]
  simp
 rw [List.getElem_append_left (by rw [MY];omega),List.getElem_tail,My,MA h]
 rfl
def fx (u s:List Nat)(k:Nat):List Nat:=u.take k++s.drop k
theorem zE (u s:List Nat):fx u s 0=s:=by simp [fx]
theorem zF (u s:List Nat)(h:u.length=s.length):fx u s s.length=u:=by unfold fx;rw [List.drop_length,MD,MR (by omega)]
theorem zG (u s:List Nat)(k:Nat)(h:u.length=s.length)(hk:k<=s.length):(fx u s k).length=s.length:=by simp [fx];omega
theorem rK (u s:List Nat)(k j:Nat)(h:u.length=s.length)(hk:k<=s.length)(hj:k<=j):(fx u s k).getD j 0=s.getD j 0:=by
 unfold fx;rw [My,My,List.getElem?_append_right (by simp;omega),List.getElem?_drop]
 congr 2;simp;omega
theorem uc (u s:List Nat)(k:Nat)(h:u.length=s.length)(hk:k<s.length):(fx u s k).set k (u.getD k 0)=fx u s (k+1):=by
 unfold fx;have hl:(u.take k).length=k:=by simp;omega
 rw [MU _ _ (by omega),hl,MP,List.drop_eq_getElem_cons hk,List.set_cons_zero,M3 (by omega),MI];congr 1;rw [My,MA (by omega)];rfl
theorem IM:∀ (rs s:List Nat) (r:Nat),ga 8 285 s (rs++[r])=fy 8 285 (ga 8 285 s rs) r:=by
 intro rs
 induction rs with
 | nil=>intro s r;rfl
 | cons a l ih=>intro s r;exact ih _ r
def nN (ec:Nat):List Nat:=MC (ec-1) 0++[1]
def dY (ec i:Nat):List Nat:=ga 8 285 (nN ec) ((Mx i).map (gx 8 285))
theorem IP (ec i:Nat):dY ec (i+1)=fy 8 285 (dY ec i) (gx 8 285 i):=by
 unfold dY;rw [ME,MH,MQ,MJ,IM]
theorem zH (ec:Nat)(h:1<=ec):(nN ec).length=ec:=by simp [nN];omega
theorem nP (ec i:Nat)(h:1<=ec):(dY ec i).length=ec:=by
 unfold dY;rw [L1 _ _ (by rw [zH ec h];omega),zH ec h]
theorem IQ (ec:Nat):ab 8 (nN ec):=by
 intro x hx;rcases List.mem_append.1 hx with h | h
 ·rw [List.eq_of_mem_replicate h];decide
 rw [List.mem_singleton.1 h];decide
theorem rM (ec i:Nat):ab 8 (dY ec i):=L0 gh _ _ (IQ ec)
theorem IR (ec i:Nat)(h:1<=ec)(hi:i<ec):ao 8 285 (gx 8 285 i) (dY ec ec)=dk 8 285 (gx 8 285 i) ec:=by
 obtain⟨n,rfl⟩:∃ n,ec=n+1:=⟨ec-1,by omega⟩;have hlt:ab 8 ((Mx n).map (gx 8 285)):=by
  intro x hx;obtain⟨j,_,rfl⟩:=List.mem_map.1 hx;exact dm gh j
 have hm:gx 8 285 i∈(Mx n).map (gx 8 285)\/gx 8 285 i=gx 8 285 n:=by
  rcases Nat.lt_or_ge i n with h | h
  ·exact .inl (List.mem_map.2 ⟨i,List.mem_range.2 h,rfl⟩)
  exact .inr (by rw [show i=n by omega])
 have:=(L7 gh ((Mx n).map (gx 8 285)) (gx 8 285 n) (gx 8 285 i) hlt (dm gh n) (dm gh i) hm).1;unfold dY nN;rw [ME,MH,MQ,MJ];simpa using this
set_option maxHeartbeats 2000000 in
set_option maxRecDepth 8000 in
theorem IT (w:World)(ec:Nat)(h:1<=ec)(h2:ec<=1000) :
  Calls Tryz.prog 119 #[.int .i64 (ec:Int)] w fun e w'=>e=.returned (.slice (some ⟨w.heap.size,0,none⟩) ec ec)/\ag w' w.heap.size (dY ec ec)/\Below w.heap.size w w':=by
 have hmk:=zD ec (by omega) w;obtain⟨g,hg⟩:∃ g,g=w.heap.size:=⟨_,rfl⟩;obtain⟨w1,hw1⟩:∃ w1,w1=w.alloc (.cells (ac .i64 (ak (MC ec 0))).toArray 3):=⟨_,rfl⟩;rw [<- hw1,<- hg] at hmk;rw [<- hg];have h0:ag w1 g (MC ec 0):=by rw [hw1,hg];exact Blk.new _ _ _
 obtain⟨e1,he1⟩:∃ e1,ec-1=e1:=⟨_,rfl⟩;have hei:(ec:Int)-1=(e1:Int):=by omega
 have hel:e1<ec:=by omega
 have y1:w1.cell? ⟨g,e1,none⟩=some (.int .i64 0):=by
  have:=h0.cell e1 (by simp;omega)
  rw [My,MA (by simp;omega)] at this
  simpa using this
 have y2:w1.frozen? ⟨g,e1,none⟩=false:=Blk.frozen h0 e1;have HB:=Mw (show ag (w1.setCell ⟨g,e1,none⟩ (.int .i64 1)) g (dY ec 0) by
  have:=h0.set e1 1;have e:(MC ec 0).set e1 1=dY ec 0:=by
   unfold dY nN;simp only [M0,MJ,ga];rw [he1,show ec=e1+1 by omega,List.replicate_succ',MU _ _ (by simp),List.length_replicate,MP];rfl
  rw [e] at this;exact this)
 have HBel:=Mw (show Below g w (w1.setCell ⟨g,e1,none⟩ (.int .i64 1)) by
  rw [hw1,hg];exact Below.setc (ai (Below.refl _ _) _) (MB _) _)
 clear hw1 hg he1 h0
 go_enter Tryz.func119,Tryz.ntmps119
 go_wp2_with fail
 clear hmk y1 y2 hei
 go_loopw [4,5] (fun vr vi wr=>∃ i:Nat,vi=.int .i64 (i:Int)/\vr=.int .i64 ((gx 8 285 i:Nat):Int)/\i<=ec/\Aside0 (ag wr g (dY ec i))/\Aside0 (Below g w wr)) (fun _ vi _=>(ec-intOf vi).toNat)
 case atStart=>exact⟨0,rfl,rfl,MF _,HB,HBel⟩
 case round=>
  clear HB HBel;obtain⟨i,rfl,rfl,hi,HB,HBel⟩:=hrel;by_cases hie:i<ec;rotate_left
  ·have:i=ec:=by omega
   subst this
   go_wp2
   go_ret
   exact⟨rfl,HB.out,HBel.out⟩
  obtain⟨r,hr⟩:∃ r,gx 8 285 i=r:=⟨_,rfl⟩;have hr8:r<256:=by rw [<- hr];exact dm gh i
  obtain⟨s,hs⟩:∃ s,dY ec i=s:=⟨_,rfl⟩;have hsl:s.length=ec:=by rw [<- hs];exact nP ec i h
  have hs8:ab 8 s:=by rw [<- hs];exact rM ec i
  obtain⟨u,hu⟩:∃ u,fy 8 285 s r=u:=⟨_,rfl⟩;have hul:u.length=s.length:=by rw [<- hu];exact pF s r (by omega)
  have HNX:=Mw (show dY ec (i+1)=u by rw [IP,hs,hr,hu]);have HRX:=Mw (show gm 8 285 r 2=gx 8 285 (i+1) by rw [<- hr,show (2:Nat)=gx 8 285 1 from rfl,lz gh]);have HG:=Mw (show ∀ k,k<s.length->u.getD k 0=gm 8 285 (s.getD k 0) r ^^^ s.getD (k+1) 0 from fun k hk=>by rw [<- hu];exact IL s r k hk)
  have HSL:=Mw hsl;have HS8:=Mw hs8;have HUL:=Mw hul;rw [hr];rw [hs] at HB;have HB0:=Mw (show ag wr g (fx u s 0) by rw [zE];exact HB.out)
  clear hr hs hsl hs8 hu hul
  go_wp2_with fail
  go_loopw [20] (fun vk wx=>∃ k:Nat,vk=.int .i64 (k:Int)/\k<=ec/\Aside0 (ag wx g (fx u s k))/\Aside0 (Below g w wx)) (fun vk _=>(ec-intOf vk).toNat)
  case atStart=>exact⟨0,rfl,MF _,HB0,HBel⟩
  case round=>
   clear HB0 HBel HB;obtain⟨k,rfl,hk,HB,HBel⟩:=hrel;by_cases hke:k<ec;rotate_left
   ·have:k=ec:=by omega
    subst this;have HB2:=Mw (show ag wr g (dY k (i+1)) by rw [HNX.out,<- zF u s HUL.out,HSL.out];exact HB.out)
    have k2:=ub wr r 2 hr8 (by decide);rw [HRX.out] at k2;obtain⟨r2,hr2⟩:∃ r2,gx 8 285 (i+1)=r2:=⟨_,rfl⟩;rw [hr2] at k2;have HR2:=Mw hr2;clear hr2
    go_wp2_with (go_at_call 120;refine k2.mono ?_;rintro e w' ⟨rfl,rfl⟩)
    go_roundw
    case rel=>exact⟨i+1,by go_num,by rw [HR2.out],by omega,HB2,HBel⟩
    case measure=>simp [intOf]<;>omega
   have hml:=zG u s k HUL.out (by rw [HSL.out];exact hk)
   rw [HSL.out] at hml;obtain⟨a,ha⟩:∃ a,s.getD k 0=a:=⟨_,rfl⟩;have ha8:a<256:=by rw [<- ha];exact aF HS8.out k
   obtain⟨b,hb⟩:∃ b,s.getD (k+1) 0=b:=⟨_,rfl⟩;have hb8:b<256:=by rw [<- hb];exact aF HS8.out (k+1)
   have r0:=HB.out.cell k (by rw [hml];exact hke)
   rw [rK u s k k HUL.out (by rw [HSL.out];exact hk) (MB _),ha] at r0
   have y2:wr.frozen? ⟨g,k,none⟩=false:=Blk.frozen HB.out k;have kt:=ub wr a r ha8 hr8;obtain⟨t,ht⟩:∃ t,gm 8 285 a r=t:=⟨_,rfl⟩;have ht8:t<256:=by rw [<- ht];exact cD gh a r ha8
   have hg:=HG.out k (by rw [HSL.out];exact hke)
   rw [ha,hb,ht] at hg;rw [ht] at kt;by_cases hk1:k+1<ec;rotate_left
   ·have hb0:b=0:=by
     rw [<- hb,My,MZ (by rw [HSL.out];omega)]
     rfl
    rw [hb0,Nat.xor_zero] at hg;have HN:=Mw (show ag (wr.setCell ⟨g,k,none⟩ (.int .i64 ((t:Nat):Int))) g (fx u s (k+1)) by
     have:=HB.out.set k t;rw [<- hg,uc u s k HUL.out (by rw [HSL.out];exact hke),hg] at this
     exact this)
    have HBN:=Mw (show Below g w (wr.setCell ⟨g,k,none⟩ (.int .i64 ((t:Nat):Int))) from Below.setc HBel.out (MB _) _);clear hg hb ht HB HBel HG hb0;have hk1i:¬ (k:Int)+1<(ec:Int):=by omega
    go_wp2_with (go_at_call 120;refine kt.mono ?_;rintro e w' ⟨rfl,rfl⟩)
    go_roundw
    case rel=>exact⟨k+1,by go_num,by omega,HN,HBN⟩
    case measure=>simp [intOf]<;>omega
   have r1:=HB.out.cell (k+1) (by rw [hml];exact hk1)
   rw [rK u s k (k+1) HUL.out (by rw [HSL.out];exact hk) (by omega),hb] at r1
   have hkk:k≠k+1:=by omega
   have hB1:=HB.out.set k t;have q0:=hB1.cell k (by rw [MV,hml];exact hke)
   have q1:=hB1.cell (k+1) (by rw [MV,hml];exact hk1)
   have q2:(wr.setCell ⟨g,k,none⟩ (.int .i64 ((t:Nat):Int))).frozen? ⟨g,k,none⟩=false:=Blk.frozen hB1 k;rw [My,M1 (by rw [hml];exact hke),MW] at q0
   rw [My,List.getElem?_set_ne hkk,<- My,rK u s k (k+1) HUL.out (by rw [HSL.out];exact hk) (by omega),hb] at q1
   have hx:=oa t b (by omega) (by omega);obtain⟨z,hz⟩:∃ z,t ^^^ b=z:=⟨_,rfl⟩;rw [hz] at hx hg;have HN:=Mw (show ag ((wr.setCell ⟨g,k,none⟩ (.int .i64 ((t:Nat):Int))).drew.setCell ⟨g,k,none⟩ (.int .i64 ((z:Nat):Int))) g (fx u s (k+1)) by
    have:=ag.set (show ag (wr.setCell ⟨g,k,none⟩ (.int .i64 ((t:Nat):Int))).drew g _ from Blk.below hB1 (bC (Below.refl _ _)) (Blk.lt hB1)) k z;rw [List.set_set,<- hg,uc u s k HUL.out (by rw [HSL.out];exact hke)] at this
    rw [hg] at this;exact this)
   have HBN:=Mw (show Below g w ((wr.setCell ⟨g,k,none⟩ (.int .i64 ((t:Nat):Int))).drew.setCell ⟨g,k,none⟩ (.int .i64 ((z:Nat):Int))) from Below.setc (bC (Below.setc HBel.out (MB _) _)) (MB _) _);clear hB1 hz hg hb ht HB HBel HG;have hk1i:(k:Int)+1<(ec:Int):=by omega
   go_wp2_with (go_at_call 120;refine kt.mono ?_;rintro e w' ⟨rfl,rfl⟩)
   apply iW
   case r=>
    intro REST
    go_region
    all_goals exact REST
   go_wp2
   go_roundw
   case rel=>exact⟨k+1,by go_num,by omega,HN,HBN⟩
   case measure=>simp [intOf]<;>omega
def dZ (w:World)(q off:Nat)(ds:List Nat):Prop:=∀ i,i<ds.length->w.cell? ⟨q,off+i,none⟩=some (.int .u8 ((ds.getD i 0:Nat):Int))
theorem dZ.below {w w':World}{q off B:Nat}{ds:List Nat}(h:dZ w q off ds)(hb:Below B w w')(hq:q<B):dZ w' q off ds :=
 fun i hi=>(hb.cell (p:=⟨q,off+i,none⟩) hq).trans (h i hi)
theorem IU (g s:List Nat)(b k:Nat)(h:s.length=g.length)(hk:k<g.length):(iT 8 285 g s b).getD k 0=s.getD (k+1) 0 ^^^ gm 8 285 (g.getD k 0) (b ^^^ s.headD 0):=by
 have hl:(iT 8 285 g s b).length=g.length:=sk g s b h (by omega);rw [My,MA (by omega),MW];unfold iT;rw [List.getElem_zipWith,List.getElem_map];have e1:g.getD k 0=g[k]:=by rw [My,MA hk];rfl
 rw [e1];congr 1;by_cases h2:k+1<s.length;rotate_left
 ·rw [List.getElem_append_right (by rw [MY];omega),My,MZ (by omega)]
  simp
 rw [List.getElem_append_left (by rw [MY];omega),List.getElem_tail,My,MA h2]
 rfl
theorem IV (g:List Nat):∀ (l s:List Nat) (b:Nat),rest 8 285 g s (l++[b])=iT 8 285 g (rest 8 285 g s l) b:=by
 intro l
 induction l with
 | nil=>intro s b;rfl
 | cons a l ih=>intro s b;exact ih _ b
theorem IW (g:List Nat)(h0:0<g.length):∀ (l s:List Nat),s.length=g.length->(rest 8 285 g s l).length=g.length:=by
 intro l
 induction l with
 | nil=>intro s h;exact h
 | cons a l ih=>intro s h;exact ih _ (sk g s a h h0)
theorem IX (g:List Nat)(hg:ab 8 g):∀ (l s:List Nat),ab 8 s->ab 8 (rest 8 285 g s l):=by
 intro l
 induction l with
 | nil=>intro s h;exact h
 | cons a l ih=>intro s h;exact ih _ (AZ gh g s a hg h)
def fV (ec:Nat)(ds:List Nat):List Nat:=rest 8 285 (dY ec ec) (MC ec 0) ds
theorem nQ (ec:Nat)(ds:List Nat)(h:1<=ec):(fV ec ds).length=ec:=by
 unfold fV;rw [IW _ (by rw [nP ec ec h];omega) _ _ (by rw [nP ec ec h];simp),nP ec ec h]
theorem zI (ec:Nat)(ds:List Nat):ab 8 (fV ec ds):=IX _ (rM ec ec) _ _ (fun x hx=>by rw [List.eq_of_mem_replicate hx];decide)
theorem IY (ec:Nat)(ds:List Nat)(i:Nat)(hi:i<ds.length):fV ec (ds.take (i+1))=iT 8 285 (dY ec ec) (fV ec (ds.take i)) (ds.getD i 0):=by
 unfold fV;rw [M3 hi,IV,My,MA hi];rfl
theorem IZ (ec i:Nat)(ds:List Nat)(h:1<=ec)(hi:i<ec)(hd:ab 8 ds):ao 8 285 (gx 8 285 i) (ds++fV ec ds)=0:=by
 have hl:=nP ec ec h;have:=LZ gh (gx 8 285 i) (dm gh i) (dY ec ec) ds (rM ec ec) (by omega) hd (by rw [hl];exact IR ec i h hi)
 rw [hl] at this;exact this
set_option maxHeartbeats 2000000 in
set_option maxRecDepth 8000 in
theorem I0 (w:World)(q off n m ec:Nat)(ds:List Nat)(hD:dZ w q off ds)(hq:q<w.heap.size)(hn:ds.length=n)(hn2:n<=100000)(hd:ab 8 ds)(h:1<=ec)(h2:ec<=1000) :
  Calls Tryz.prog 63 #[.slice (some ⟨q,off,none⟩) n m,.int .i64 (ec:Int)] w fun e w'=>∃ g,e=.returned (.slice (some ⟨g,0,none⟩) ec ec)/\w.heap.size<=g/\aA w' g (fV ec ds)/\Below w.heap.size w w':=by
 have kg:=IT w ec h h2;have HD:=Mw hD;have HQ:=Mw hq;have HN:=Mw hn;have HDD:=Mw hd;obtain⟨g0,hg0⟩:∃ g0,g0=w.heap.size:=⟨_,rfl⟩;rw [<- hg0] at kg ⊢;have HG0:=Mw hg0;clear hD hq hn hd hg0;have HEC:=Mw h
 go_enter Tryz.func63,Tryz.ntmps63
 go_wp2_with (go_loud (go_at_call 119;refine kg.mono ?_;rintro e w1 ⟨rfl,hI,hB⟩;have hmk:=nc ec (by omega) w1;have hlt:=Blk.lt hI;obtain⟨w2,hw2⟩:∃ w2,w2=w1.alloc (.cells (ac .u8 (ak (MC ec 0))).toArray 5):=⟨_,rfl⟩;obtain⟨g1,hg1⟩:∃ g1,g1=w1.heap.size:=⟨_,rfl⟩;rw [<- hw2,<- hg1] at hmk;rw [<- hg1] at hlt;have HG1:=Mw hlt;have HI:=Mw (show ag w2 g0 (dY ec ec) by rw [hw2];exact Blk.alloc hI _);have HB:=Mw (show Below g0 w w2 by rw [hw2];rw [HG0.out] at hB ⊢;exact ai hB _);have HU:=Mw (show aA w2 g1 (fV ec (ds.take 0)) by rw [hw2,hg1];exact Blk.new _ _ _);clear hI hB hlt hw2 hg1))
 clear kg hmk
 go_loopw [18] (fun vi wr=>∃ i:Nat,vi=.int .i64 (i:Int)/\i<=n/\Aside0 (ag wr g0 (dY ec ec))/\Aside0 (aA wr g1 (fV ec (ds.take i)))/\Aside0 (Below g0 w wr)) (fun vi _=>(n-intOf vi).toNat)
 case atStart=>exact⟨0,rfl,MF _,HI,HU,HB⟩
 case round=>
  clear HI HU HB;obtain⟨i,rfl,hi,HI,HU,HB⟩:=hrel;by_cases hin:i<n;rotate_left
  ·have:i=n:=by omega
   subst this
   go_wp2
   go_ret
   exact⟨g1,rfl,Nat.le_of_lt HG1.out,by have:=HU.out;rwa [MR (by rw [HN.out];omega)] at this,HB.out⟩
  obtain⟨b,hb⟩:∃ b,ds.getD i 0=b:=⟨_,rfl⟩;have hb8:b<256:=by rw [<- hb];exact aF HDD.out i
  have r0:wr.cell? ⟨q,off+i,none⟩=some (.int .u8 (b:Int)):=by
   have:=HD.out.below HB.out (by rw [HG0.out];exact HQ.out) i (by rw [HN.out];exact hin)
   rw [hb] at this;exact this
  obtain⟨s,hs⟩:∃ s,fV ec (ds.take i)=s:=⟨_,rfl⟩;have hsl:s.length=ec:=by rw [<- hs];exact nQ ec _ HEC.out
  have hs8:ab 8 s:=by rw [<- hs];exact zI ec _
  rw [hs] at HU;obtain⟨a,ha⟩:∃ a,s.getD 0 0=a:=⟨_,rfl⟩;have ha8:a<256:=by rw [<- ha];exact aF hs8 0
  have r1:wr.cell? ⟨g1,0,none⟩=some (.int .u8 (a:Int)):=by
   have:=aA.cell HU.out 0 (by rw [hsl];exact h)
   rw [ha] at this;exact this
  have hx:=u8_xor_nat b a (by omega) (by omega);obtain⟨f,hf⟩:∃ f,b ^^^ a=f:=⟨_,rfl⟩;have hf8:f<256:=by rw [<- hf];exact Nat.xor_lt_two_pow (n:=8) hb8 ha8
  rw [hf] at hx;obtain⟨G,hG⟩:∃ G,dY ec ec=G:=⟨_,rfl⟩;have hGl:G.length=ec:=by rw [<- hG];exact nP ec ec HEC.out
  have hG8:ab 8 G:=by rw [<- hG];exact rM ec ec
  obtain⟨u,hu⟩:∃ u,iT 8 285 G s b=u:=⟨_,rfl⟩;have hul:u.length=s.length:=by rw [<- hu,sk G s b (by omega) (by omega)];omega
  have hhd:s.headD 0=a:=by rw [<- ha];cases s<;>rfl
  have HNX:=Mw (show fV ec (ds.take (i+1))=u by rw [IY ec ds i (by rw [HN.out];exact hin),hG,hs,hb,hu])
  have HGT:=Mw (show ∀ k,k<ec->u.getD k 0=s.getD (k+1) 0 ^^^ gm 8 285 (G.getD k 0) f from fun k hk=>by rw [<- hu,IU G s b k (by omega) (by omega),hhd,hf]);rw [hG] at HI;have HGE:=Mw hG;have HGL:=Mw hGl;have HG8:=Mw hG8;have HSL:=Mw hsl;have HS8:=Mw hs8;have HUL:=Mw hul;have HU0:=Mw (show aA wr g1 (fx u s 0) by rw [zE];exact HU.out)
  have hec0:(0:Int)<(ec:Int):=by omega
  clear hb hs hsl hs8 ha hf hG hGl hG8 hu hul hhd
  go_wp2_with fail
  clear r0 r1 hx
  go_loopw [30] (fun vk wx=>∃ k:Nat,vk=.int .i64 (k:Int)/\k<=ec/\Aside0 (ag wx g0 G)/\Aside0 (aA wx g1 (fx u s k))/\Aside0 (Below g0 w wx)) (fun vk _=>(ec-intOf vk).toNat)
  case atStart=>exact⟨0,rfl,MF _,HI,HU0,HB⟩
  case round=>
   clear HI HU HB HU0;obtain⟨k,rfl,hk,HI,HU,HB⟩:=hrel;by_cases hke:k<ec;rotate_left
   ·have:k=ec:=by omega
    subst this;have HI2:=Mw (show ag wr g0 (dY k k) by rw [HGE.out];exact HI.out)
    have HU2:=Mw (show aA wr g1 (fV k (ds.take (i+1))) by rw [HNX.out,<- zF u s HUL.out,HSL.out];exact HU.out)
    go_wp2
    go_roundw
    case rel=>exact⟨i+1,by go_num,by omega,HI2,HU2,HB⟩
    case measure=>simp [intOf]<;>omega
   have hml:=zG u s k HUL.out (by rw [HSL.out];exact hk)
   rw [HSL.out] at hml;obtain⟨a,ha⟩:∃ a,G.getD k 0=a:=⟨_,rfl⟩;have ha8:a<256:=by rw [<- ha];exact aF HG8.out k
   obtain⟨c,hc⟩:∃ c,s.getD (k+1) 0=c:=⟨_,rfl⟩;have hc8:c<256:=by rw [<- hc];exact aF HS8.out (k+1)
   have r0:=HI.out.cell k (by rw [HGL.out];exact hke)
   rw [ha] at r0;have y2:wr.frozen? ⟨g1,k,none⟩=false:=Blk.frozen HU.out k;have y3:=HU.out.cell k (by rw [hml];exact hke)
   have kt:=ub wr a f ha8 hf8;have hg:=HGT.out k hke;obtain⟨t,ht⟩:∃ t,gm 8 285 a f=t:=⟨_,rfl⟩;have ht8:t<256:=by rw [<- ht];exact cD gh a f ha8
   rw [ha,hc,ht] at hg;rw [ht] at kt;have hx:=u8_xor_nat c t (by omega) (by omega);obtain⟨z,hz⟩:∃ z,c ^^^ t=z:=⟨_,rfl⟩;rw [hz] at hx hg;have hz8:z<256:=by rw [<- hz];exact Nat.xor_lt_two_pow (n:=8) hc8 ht8
   have HN:=Mw (show aA (wr.setCell ⟨g1,k,none⟩ (.int .u8 ((z:Nat):Int))) g1 (fx u s (k+1)) by
    have:=HU.out.set k z;rw [<- hg,uc u s k HUL.out (by rw [HSL.out];exact hke),hg] at this
    exact this)
   have HI2:=Mw (show ag (wr.setCell ⟨g1,k,none⟩ (.int .u8 ((z:Nat):Int))) g0 G from Blk.far HI.out (by have:=HG1.out;show g0≠g1;omega) _)
   have HB2:=Mw (show Below g0 w (wr.setCell ⟨g1,k,none⟩ (.int .u8 ((z:Nat):Int))) from Below.setc HB.out (Nat.le_of_lt HG1.out) _);have htm:(t:Int)%256=(t:Int):=by omega
   by_cases hk1:k+1<ec
   ·have r1:=HU.out.cell (k+1) (by rw [hml];exact hk1)
    rw [rK u s k (k+1) HUL.out (by rw [HSL.out];exact hk) (by omega),hc] at r1
    have hk1i:(k:Int)+1<(ec:Int):=by omega
    clear ha hc ht hz hg
    go_wp2_with (go_at_call 120;refine kt.mono ?_;rintro e w' ⟨rfl,rfl⟩)
    go_roundw
    case rel=>exact⟨k+1,by go_num,by omega,HI2,HN,HB2⟩
    case measure=>simp [intOf]<;>omega
   have hc0:c=0:=by
    rw [<- hc,My,MZ (by rw [HSL.out];omega)]
    rfl
   have hk1i:¬ (k:Int)+1<(ec:Int):=by omega
   rw [hc0] at hx;have hx':Go.bits .xor .u8 0 (t:Int)=(z:Int):=hx;clear ha hc ht hz hg hc0 hx
   go_wp2_with (go_at_call 120;refine kt.mono ?_;rintro e w' ⟨rfl,rfl⟩)
   go_roundw
   case rel=>exact⟨k+1,by go_num,by omega,HI2,HN,HB2⟩
   case measure=>simp [intOf]<;>omega
def gZ (c d n i:Nat):List Nat:=(Mx n).map fun k=>if k<i then dl c d k else 0
def j6 (c d n:Nat):List Nat:=(Mx n).map (dl c d)
theorem ud (c d n i:Nat):(gZ c d n i).length=n:=by simp [gZ]
theorem I1 (c d n:Nat):gZ c d n 0=MC n 0:=by
 apply List.ext_getElem (by simp [gZ]);intro i h1 h2;simp [gZ]
theorem I2 (c d n:Nat):gZ c d n n=j6 c d n:=by
 unfold gZ j6;apply List.map_congr_left;intro k hk;rw [if_pos (List.mem_range.1 hk)]
theorem I3 (c d n i:Nat)(h:i<n):(gZ c d n i).set i (dl c d i)=gZ c d n (i+1):=by
 apply List.ext_getElem (by simp [gZ]);intro k h1 h2;rw [List.getElem_set];simp only [gZ,List.getElem_map,List.getElem_range];by_cases hk:i=k
 ·subst hk;rw [if_pos rfl,if_pos (by omega)]
 rw [if_neg hk];by_cases h3:k<i
 ·rw [if_pos h3,if_pos (by omega)]
 rw [if_neg h3,if_neg (by omega)]
theorem zJ (c d n i:Nat)(h:i<n):(j6 c d n).getD i 0=dl c d i:=by
 rw [My,MA (by simp [j6];omega)]
 simp [j6]
theorem zK (c d n:Nat):(j6 c d n).length=n:=by simp [j6]
set_option maxHeartbeats 1000000 in
set_option maxRecDepth 8000 in
theorem zL (w:World)(v l:Nat)(hv:1<=v/\v<=40)(hl:l<4) :
  Calls Tryz.prog 62 #[.int .i64 (v:Int),.int .i64 (l:Int)] w fun e w'=>∃ g,e=.returned (.slice (some ⟨g,0,none⟩) (av v l+aE v l) (av v l+aE v l))/\w.heap.size<=g/\ag w' g (j6 (av v l) (aN v l) (av v l+aE v l))/\Below w.heap.size w w':=by
 have k1:=pe w v l hv hl;have K2:=Mw (fun W=>zw W v hv);have L:=eD v l hv hl;have h1:=L.tot;have h2:=(jp v hv).2;have hc1:=L.c1;have hcc:=L.cc;have he2:=L.e2;have hd2:=L.d2;obtain⟨e,he⟩:∃ e,aW v l=e:=⟨_,rfl⟩;obtain⟨c,hc⟩:∃ c,av v l=c:=⟨_,rfl⟩;obtain⟨d,hd⟩:∃ d,aN v l=d:=⟨_,rfl⟩;obtain⟨c2,hc2⟩:∃ c2,aE v l=c2:=⟨_,rfl⟩;obtain⟨T,hT⟩:∃ T,bW v/8=T:=⟨_,rfl⟩;rw [he,hc,hc2] at k1;rw [hc,hd,hc2];rw [hT] at K2;rw [he,hc,hd,hc2,hT] at h1;rw [hc] at hc1;rw [hc,hc2] at hcc;rw [he] at he2;rw [hd] at hd2;obtain⟨n,hn⟩:∃ n,c+c2=n:=⟨_,rfl⟩;rw [hn] at k1 h1 hcc ⊢;have hT5:T<=5000:=by omega
 have hc2n:c2<n:=by omega
 have hn0:0<n:=by omega
 have e1:T=c2+n*(d+e):=by
  have:n*(d+e)=d*n+e*n:=by rw [Nat.mul_comm,Nat.add_mul]
  omega
 have e2:T/n=d+e:=by rw [e1,Nat.add_mul_div_left _ _ hn0,Nat.div_eq_of_lt hc2n,MN]
 have e3:T%n=c2:=by rw [e1,Nat.add_mul_mod_self_left,Nat.mod_eq_of_lt hc2n]
 obtain⟨dq,hdq⟩:∃ dq,d+e=dq:=⟨_,rfl⟩;rw [hdq] at e2;have q1:(T:Int)/(n:Int)=(dq:Int):=by rw [<- e2];rfl
 have q2:(T:Int)%(n:Int)=(c2:Int):=by rw [<- e3];rfl
 have q3:(dq:Int)-(e:Int)=(d:Int):=by omega
 have q4:(n:Int)-(c2:Int)=(c:Int):=by omega
 have hdq3:dq<=300:=by omega
 have hn00:(n:Int)≠0:=by omega
 clear L h1 h2 he hc hd hc2 hT hn e1 e2 e3 hdq;have HN:=Mw hn0
 go_enter Tryz.func62,Tryz.ntmps62
 go_wp2_with (first | (go_at_call 55;refine k1.mono ?_;rintro e w1 ⟨rfl,hb1⟩;have HB1:=Mw hb1;clear hb1) | (go_at_call 56;refine (K2.out _).mono ?_;rintro e w2 ⟨rfl,hb2⟩;have HB2:=Mw (HB1.out.trans (hb2.mono HB1.out.size));have hmk:=zD n (by omega) w2;obtain⟨w3,hw3⟩:∃ w3,w3=w2.alloc (.cells (ac .i64 (ak (MC n 0))).toArray 3):=⟨_,rfl⟩;obtain⟨g,hg⟩:∃ g,g=w2.heap.size:=⟨_,rfl⟩;have HG:=Mw (show w.heap.size<=g by rw [hg];exact HB2.out.size);rw [<- hw3,<- hg] at hmk;have HI:=Mw (show ag w3 g (gZ c d n 0) by rw [hw3,hg,I1];exact Blk.new _ _ _);have HB:=Mw (show Below w.heap.size w w3 by rw [hw3];exact Below.alloc HB2.out HB2.out.size _);clear hb2 hw3 hg))
 clear k1 hmk
 go_loopw [22] (fun vi wr=>∃ i:Nat,vi=.int .i64 (i:Int)/\i<=n/\Aside0 (ag wr g (gZ c d n i))/\Aside0 (Below w.heap.size w wr)) (fun vi _=>(n-intOf vi).toNat)
 case atStart=>exact⟨0,rfl,MF _,HI,HB⟩
 case round=>
  clear HI HB;obtain⟨i,rfl,hi,HI,HB⟩:=hrel;by_cases hin:i<n;rotate_left
  ·have:i=n:=by omega
   subst this
   go_wp2
   go_ret
   exact⟨g,rfl,HG.out,by have:=HI.out;rwa [I2] at this,HB.out⟩
  have y1:=HI.out.cell i (by rw [ud];exact hin)
  have y2:wr.frozen? ⟨g,i,none⟩=false:=Blk.frozen HI.out i;have hB1:=HI.out.set i d;have y3:(wr.setCell ⟨g,i,none⟩ (.int .i64 (d:Int))).cell? ⟨g,i,none⟩=some (.int .i64 (d:Int)):=by
   have:=hB1.cell i (by rw [MV,ud];exact hin)
   rwa [My,M1 (by rw [ud];exact hin),MW] at this
  have y4:(wr.setCell ⟨g,i,none⟩ (.int .i64 (d:Int))).frozen? ⟨g,i,none⟩=false:=Blk.frozen hB1 i;have hnx:=I3 c d n i hin;have HB1:=Mw (Below.setc HB.out HG.out (i:=i) (.int .i64 (d:Int)));by_cases hic:i<c
  ·have HI1:=Mw (show ag (wr.setCell ⟨g,i,none⟩ (.int .i64 (d:Int))) g (gZ c d n (i+1)) by
    rw [show dl c d i=d by unfold dl;rw [if_pos hic]] at hnx
    rw [hnx] at hB1;exact hB1)
   have hic2:¬ (c:Int)<=(i:Int):=by omega
   clear hB1 hnx
   go_wp2
   go_roundw
   case rel=>exact⟨i+1,by go_num,by omega,HI1,HB1⟩
   case measure=>simp [intOf]<;>omega
  have HI1:=Mw (show ag ((wr.setCell ⟨g,i,none⟩ (.int .i64 (d:Int))).setCell ⟨g,i,none⟩ (.int .i64 ((d+1:Nat):Int))) g (gZ c d n (i+1)) by
   have:=hB1.set i (d+1);rw [List.set_set] at this;rw [show dl c d i=d+1 by unfold dl;rw [if_neg hic]] at hnx
   rw [hnx] at this;exact this)
  have HB2:=Mw (Below.setc HB1.out HG.out (i:=i) (.int .i64 ((d+1:Nat):Int)));have hic2:(c:Int)<=(i:Int):=by omega
  clear hB1 hnx
  go_wp2
  go_roundw
  case rel=>exact⟨i+1,by go_num,by omega,HI1,HB2⟩
  case measure=>simp [intOf]<;>omega
def ff (c d k:Nat):Nat:=k*d+(k-c)
theorem zM (c d:Nat):ff c d 0=0:=by simp [ff]
theorem nR (c d k:Nat):ff c d (k+1)=ff c d k+dl c d k:=by
 unfold ff dl;rw [Nat.add_mul,Nat.one_mul]
 split<;>omega
theorem rN (c d k:Nat):∀ m,ff c d k<=ff c d (k+m)
 | 0=>MB _
 | m+1=>by have:=rN c d k m;rw [<- Nat.add_assoc,nR];omega
theorem pi (c d c2:Nat):ff c d (c+c2)=d*(c+c2)+c2:=by
 unfold ff;rw [Nat.mul_comm,show c+c2-c=c2 by omega]
def jG (c d:Nat)(ws:List Nat)(k:Nat):List Nat:=(ws.drop (ff c d k)).take (dl c d k)
theorem rO (c d:Nat)(ws:List Nat)(k:Nat)(h:ff c d k+dl c d k<=ws.length):(jG c d ws k).length=dl c d k:=by
 simp [jG];omega
def eV (c d e:Nat)(ws:List Nat)(k:Nat):List Nat:=jG c d ws k++fV e (jG c d ws k)
theorem ue (c d:Nat)(ws:List Nat)(k:Nat)(h:ab 8 ws):ab 8 (jG c d ws k):=fun x hx=>h x (List.mem_of_mem_drop (List.mem_of_mem_take hx))
theorem zN (c d e:Nat)(ws:List Nat)(k:Nat)(h:ab 8 ws):ab 8 (eV c d e ws k):=by
 intro x hx;rcases List.mem_append.1 hx with h1 | h1
 ·exact ue c d ws k h x h1
 exact zI _ _ x h1
theorem uf (g o j:Nat):(⟨g,o,none⟩:Addr).add j=⟨g,o+j,none⟩:=by unfold Addr.add;split<;>simp_all
theorem dZ.reads {w:World}{q off:Nat}{ds:List Nat}(h:dZ w q off ds)(hl:ds.length<=1000000):cA w .u8 (some ⟨q,off,none⟩) ds.length (ak ds):=by
 refine⟨ey _,by omega,fun _=>⟨_,rfl,fun j hj=>?_⟩⟩;rw [uf,h j hj];simp [ak,My,MS,MA hj]
theorem dZ.part {w:World}{q off m:Nat}{ds:List Nat}(h:dZ w q 0 ds):dZ w q off ((ds.drop off).take m):=by
 intro i hi;have hl:i<m/\off+i<ds.length:=by simp at hi;omega
 have:=h (off+i) hl.2;rw [MN] at this;rw [this,My,My,M4 hl.1,List.getElem?_drop]
theorem aA.bytes {w:World}{q:Nat}{ds:List Nat}(h:aA w q ds):dZ w q 0 ds:=fun i hi=>by rw [MN];exact h.cell i hi
theorem ug {w:World}{base n:Nat}{v:Value}{xs:List Nat}(h:w.ownsRow base 5 1 v n (ac .u8 (ak xs)))(h0:0<n) :
  ∃ q c,v=.slice (some ⟨q,0,none⟩) n c/\base<=q/\n<=c/\(∃ cs,Blk w q 5 cs)/\dZ w q 0 xs/\xs.length=n:=by
 obtain⟨hlen,h2⟩:=h;have hxn:xs.length=n:=by rw [<- ey xs];simpa [ac] using hlen
 rcases h2 with⟨rfl,h3⟩ | ⟨q,c,cs,rfl,hb,hh,hc,hm,hs,ht⟩
 ·omega
 refine⟨q,c,rfl,hb,hc,⟨cs,hh⟩,fun i hi=>?_,hxn⟩;rw [MN];have hk:=Blk.cell hh i;rw [hk];have h5:(cs.toList.take n)[i]? = (ac .u8 (ak xs))[i]?:=by rw [Nat.mul_one] at ht;rw [ht]
 rw [M4 (by omega)] at h5;rw [<- Array.getElem?_toList,h5];simp [ac,ak,MS,MA hi,My]
structure d9 (w:World)(B:Nat)(vo:Value)(n:Nat)(code:Nat->List Nat)(qs cs:Nat->Nat):Prop where
 own:w.ownsRow B 26 1 vo n ((Mx n).map fun k=>.slice (some ⟨qs k,0,none⟩) (code k).length (cs k))
 blk:∀ k,k<n->B<=qs k/\(code k).length<=cs k/\(∃ ys,Blk w (qs k) 5 ys)/\dZ w (qs k) 0 (code k)
 inj:∀ i j,i<j->j<n->qs i<qs j
theorem d9.below {w w':World}{B D:Nat}{vo:Value}{n:Nat}{code:Nat->List Nat}{qs cs:Nat->Nat}(h:d9 w B vo n code qs cs)(hb:Below D w w')(hD:w.heap.size<=D):d9 w' B vo n code qs cs:=by
 refine⟨ei h.own fun k hk=>?_,fun k hk=>?_,h.inj⟩
 ·obtain⟨cq,hq⟩:=eM h.own k hk;exact hb.block k (MG hq.lt hD)
 obtain⟨h1,h2,⟨ys,h3⟩,h4⟩:=h.blk k hk;have hlt:=MG h3.lt hD;exact⟨h1,h2,⟨ys,h3.below hb hlt⟩,h4.below hb hlt⟩
theorem d9.nil (w:World)(B:Nat)(code:Nat->List Nat)(qs cs:Nat->Nat):d9 w B (.slice none 0 0) 0 code qs cs:=⟨⟨rfl,.inl ⟨rfl,rfl⟩⟩,fun k hk=>absurd hk (by omega),fun i j _ hj=>absurd hj (by omega)⟩
theorem d9.step {W w1:World}{B q c:Nat}{vo v1:Value}{n:Nat}{code:Nat->List Nat}{qs cs:Nat->Nat}{ys:Array Value}(h:d9 W B vo n code qs cs)(hq:B<=q)(hqn:∀ k,k<n->qs k<q)(hc:(code n).length<=c)(hy:Blk W q 5 ys)(hb:dZ W q 0 (code n))
  (ho:w1.ownsRow B 26 1 v1 (n+1) (((Mx n).map fun k=>(.slice (some ⟨qs k,0,none⟩) (code k).length (cs k):Value))++[.slice (some ⟨q,0,none⟩) (code n).length c])) (hg:W.grownBy w1 vo.ownBlock) :
  d9 w1 B v1 (n+1) code (fun k=>if k<n then qs k else q) (fun k=>if k<n then cs k else c):=by
 refine⟨?_,fun k hk=>?_,fun i j hij hj=>?_⟩
 ·have e:((Mx (n+1)).map fun k=>(.slice (some ⟨if k<n then qs k else q,0,none⟩) (code k).length (if k<n then cs k else c):Value))=((Mx n).map fun k=>(.slice (some ⟨qs k,0,none⟩) (code k).length (cs k):Value))++[.slice (some ⟨q,0,none⟩) (code n).length c]:=by
   rw [ME,MH,MQ,MJ,if_neg (by omega),if_neg (by omega)];congr 1;apply List.map_congr_left;intro k hk;have:=List.mem_range.1 hk;simp only [if_pos this]
  rw [e];exact ho
 rotate_left
 ·have hi:i<n:=by omega
  simp only [if_pos hi];by_cases hjn:j<n;rotate_left
  ·rw [if_neg hjn];exact hqn i hi
  rw [if_pos hjn];exact h.inj i j hij hjn
 have mv:∀ (g:Nat) (zs:Array Value),Blk W g 5 zs->w1.heap[g]? = W.heap[g]?:=fun g zs hz=>hg.block g hz.lt (own_ne h.own hz (by decide))
 have mb:∀ (g:Nat) (zs:Array Value) (ds:List Nat),Blk W g 5 zs->dZ W g 0 ds->dZ w1 g 0 ds:=fun g zs ds hz hd i hi=>by
  have:=hd i hi;unfold World.cell? at this ⊢;rw [mv g zs hz];exact this
 by_cases hkn:k<n;rotate_left
 ·obtain rfl:k=n:=by omega
  simp only [if_neg hkn];exact⟨hq,hc,⟨ys,(mv _ ys hy).trans hy⟩,mb _ ys _ hy hb⟩
 simp only [if_pos hkn];obtain⟨h1,h2,⟨zs,h3⟩,h4⟩:=h.blk k hkn;exact⟨h1,h2,⟨zs,(mv _ zs h3).trans h3⟩,mb _ zs _ h3 h4⟩
set_option maxHeartbeats 4000000 in
set_option maxRecDepth 8000 in
theorem I4 (w:World)(v l q N cN:Nat)(ws:List Nat)(hv:1<=v/\v<=40)(hl:l<4)(hD:dZ w q 0 ws)(hq:q<w.heap.size)(hn:ws.length=N)(hr:N=cz v l)(hw:ab 8 ws)(hc:N<=cN) :
  Calls Tryz.prog 27 #[.slice (some ⟨q,0,none⟩) N cN,.int .i64 (v:Int),.int .i64 (l:Int)] w fun e w'=>∃ vo qs cs,e=.returned vo/\d9 w' w.heap.size vo (av v l+aE v l) (eV (av v l) (aN v l) (aW v l) ws) qs cs/\Below w.heap.size w w':=by
 have k1:=pe w v l hv hl;have K2:=Mw (fun W=>zL W v l hv hl);have L:=eD v l hv hl;have h1:=L.tot;have h2:=(jp v hv).2;have hc1:=L.c1;have hcc:=L.cc;have he1:=L.e1;have he2:=L.e2;have hd1:=L.d1;have hd2:=L.d2;unfold cz at hr;obtain⟨e,he⟩:∃ e,aW v l=e:=⟨_,rfl⟩;obtain⟨c,hcv⟩:∃ c,av v l=c:=⟨_,rfl⟩;obtain⟨d,hd⟩:∃ d,aN v l=d:=⟨_,rfl⟩;obtain⟨c2,hc2⟩:∃ c2,aE v l=c2:=⟨_,rfl⟩;rw [he,hcv,hd,hc2] at h1;rw [hcv,hc2] at hcc;rw [he,hcv,hc2] at k1;rw [hcv,hd,hc2] at K2 hr;rw [he] at he1 he2;rw [hcv] at hc1;rw [hd] at hd1 hd2;rw [hcv,hd,hc2,he];obtain⟨n,hnn⟩:∃ n,c+c2=n:=⟨_,rfl⟩;have hend:=pi c d c2;rw [hnn] at k1 K2 hr hend hcc h1 ⊢;have hNN:ff c d n=N:=by omega
 have hN5:N<=5000:=by omega
 have HEND:=Mw hNN;have HD:=Mw hD;have HQ:=Mw hq;have HN:=Mw hn;have HW:=Mw hw;have HE1:=Mw he1;have HE2:=Mw he2;have HD1:=Mw hd1;have HD2:=Mw hd2;have HCN:=Mw hc;clear L h1 h2 he hcv hd hc2 hr hnn hend hNN hD hq hn hw he1 he2 hd1 hd2 hc hc1
 go_enter Tryz.func27,Tryz.ntmps27
 go_wp2_with (first | (go_at_call 55;refine k1.mono ?_;rintro e w1 ⟨rfl,hb1⟩;have HB1:=Mw hb1;clear hb1) | (go_at_call 62;refine (K2.out _).mono ?_;rintro e w2 ⟨gs,rfl,hgs,hI,hb2⟩;have HB2:=Mw (HB1.out.trans (hb2.mono HB1.out.size));have HI:=Mw hI;have HGS:=Mw (show w.heap.size<=gs from Nat.le_trans HB1.out.size hgs);clear hgs hb2 hI))
 clear k1
 go_loopw [9,10,24] (fun vo va vi wr=>∃ (i o:Nat) (qs cs:Nat->Nat),vi=.int .i64 (i:Int)/\va=.int .i64 (o:Int)/\i<=n/\o<=N/\Aside0 (o=ff c d i)/\Aside0 (d9 wr w.heap.size vo i (eV c d e ws) qs cs)/\Aside0 (ag wr gs (j6 c d n))/\Aside0 (Below w.heap.size w wr)) (fun _ _ vi _=>(n-intOf vi).toNat)
 case atStart=>exact⟨0,0,fun _=>0,fun _=>0,rfl,rfl,MF _,MF _,⟨(zM c d).symm⟩,⟨d9.nil _ _ _ _ _⟩,HI,HB2⟩
 case round=>
  clear HI HB2;obtain⟨i,o,qs,cs,rfl,rfl,hi,ho,HO,HR,HI,HB⟩:=hrel;by_cases hin:i<n;rotate_left
  ·have:i=n:=by omega
   subst this
   go_wp2
   go_ret
   exact⟨_,qs,cs,rfl,HR.out,HB.out⟩
  obtain⟨m,hm⟩:∃ m,dl c d i=m:=⟨_,rfl⟩;have hnx:=nR c d i;rw [hm,<- HO.out] at hnx;have hmn:=rN c d (i+1) (n-(i+1));rw [show i+1+(n-(i+1))=n by omega,HEND.out,hnx] at hmn;have hm0:0<m:=by rw [<- hm];unfold dl;have:=HD1.out;split<;>omega
  have hm2:m<=300:=by rw [<- hm];unfold dl;have:=HD2.out;split<;>omega
  have r0:=HI.out.cell i (by rw [zK];exact hin)
  rw [zJ c d n i hin,hm] at r0;obtain⟨ds,hds⟩:∃ ds,jG c d ws i=ds:=⟨_,rfl⟩;have hdl:ds.length=m:=by rw [<- hds,rO c d ws i (by rw [hm,<- HO.out,HN.out];exact hmn),hm]
  have hd8:ab 8 ds:=by rw [<- hds];exact ue c d ws i HW.out
  have HDW:=Mw (show ∀ W,Below wr.heap.size wr W->dZ W q o ds/\q<W.heap.size from fun W hW=>by
   have hqr:=MG HQ.out HB.out.size;have:=(HD.out.below HB.out HQ.out).below hW hqr;refine⟨?_,MG hqr hW.size⟩;rw [<- hds,HO.out];unfold jG;exact this.part)
  have HDC:=Mw (show eV c d e ws i=ds++fV e ds by unfold eV;rw [hds])
  have HNX:=Mw hnx.symm;have HDL:=Mw hdl;have HD8:=Mw hd8;have hcn:=HCN.out;have hmm:o+m-o=m:=by omega
  have HE:=Mw hmm;have HM0:=Mw hm0;have K63:=Mw (show ∀ W,Below wr.heap.size wr W->Calls Tryz.prog 63 #[.slice (some ⟨q,o,none⟩) m (cN-o),.int .i64 (e:Int)] W fun e0 w'=>∃ g,e0=.returned (.slice (some ⟨g,0,none⟩) e e)/\W.heap.size<=g/\aA w' g (fV e ds)/\Below W.heap.size W w' from fun W hW=>I0 W q o m (cN-o) e ds (HDW.out W hW).1 (HDW.out W hW).2 HDL.out (by omega) HD8.out HE1.out (by have:=HE2.out;omega))
  have HR':=HR;have he100:e<=100:=HE2.out;clear hm hnx hds hdl hd8 hmm
  go_wp2_with (first
   | ((with_reducible refine bD (b:=.append) (xs:=#[.const (.slice none 0 0),.tmp 33]) rfl ?_);at_builtin;go_loud (refine ol (w0:=wr) wr.heap.size rfl (.const (.slice none 0 0)) (.tmp 33) 26 5 .u8 1 rfl Tryz.underlying26 F.cS (by decide) (.slice none 0 0) [] (ak ds) (some ⟨q,o,none⟩) m (cN-o) rfl (by first | rfl | simp [Act.eval,Act.put]) (rz _ _) ?aR (Below.refl _ _) (MB _) ?aL ?_;(case aR=>(have h1:=dZ.reads (HDW.out _ (Below.refl _ _)).1 (by rw [HDL.out];omega);rw [HDL.out] at h1;exact h1));(case aL=>(simp;omega));intro v1 w1 ho1 hb1 hg1 hat1;rw [List.nil_append,ey,HDL.out] at ho1;obtain⟨A1,c1,hv1⟩:=eh ho1;subst hv1;have HO1:=Mw ho1;have HB1:=Mw hb1;clear ho1 hb1 hg1 hat1))
   | (go_at_call 63;go_loud (first | refine (K63.out _ HB1.out).mono ?_ | (rw [HE.out];refine (K63.out _ HB1.out).mono ?_));rintro e0 w3 ⟨g,rfl,hg,hU,hb3⟩;have HU:=Mw hU;have HG:=Mw hg;have HB3:=Mw hb3;have HO3:=Mw (ei HO1.out fun k hk=>(by obtain⟨cs1,hbk⟩:=eM HO1.out k hk;exact hb3.block k hbk.lt));have HB13:=Mw (HB1.out.trans (hb3.mono HB1.out.size));clear hg hU hb3)
   | ((with_reducible refine bD (b:=.append) (xs:=#[.tmp 36,.tmp 44]) rfl ?_);at_builtin;go_loud (refine ol (w0:=wr) wr.heap.size rfl (.tmp 36) (.tmp 44) 26 5 .u8 1 rfl Tryz.underlying26 F.cS (by decide) (.slice A1 m c1) (ak ds) (ak (fV e ds)) (some ⟨g,0,none⟩) e e rfl rfl ?aO ?aR HB13.out HB13.out.size ?aL ?_;(case aO=>(rw [ey,HDL.out];exact HO3.out));(case aR=>(have h1:=dZ.reads HU.out.bytes (by rw [nQ e ds HE1.out];omega);rw [nQ e ds HE1.out] at h1;exact h1));(case aL=>(rw [ey,HDL.out];omega));intro v4 w4 ho4 hb4 hg4 hat4;rw [<- pg,<- HDC.out,ey] at ho4;have hcl:(eV c d e ws i).length=m+e:=(by rw [HDC.out,Mz,HDL.out,nQ e ds HE1.out]);rw [hcl] at ho4;obtain⟨q4,c4,hv4,hq4,hc4,⟨cs4,hbk4⟩,hby4,_⟩:=ug ho4 (by omega);subst hv4;have HQ4:=Mw hq4;have HC4:=Mw hc4;have HBK4:=Mw hbk4;have HBY4:=Mw hby4;have HCL:=Mw hcl;have HB4:=Mw hb4;have HB4w:=Mw (HB.out.trans (hb4.mono HB.out.size));have HR4:=Mw (HR.out.below hb4 (MB _));have HI4:=Mw (Blk.below HI.out hb4 (Blk.lt HI.out));clear ho4 hb4 hg4 hat4 hq4 hc4 hbk4 hby4 hcl))
   | ((with_reducible refine bD (b:=.append) (xs:=#[.tmp 35,.tmp 46]) rfl ?_);at_builtin;go_loud (refine pL (w0:=w) w.heap.size rfl (.tmp 35) (.tmp 46) 27 26 (.slice none 0 0) 24 rfl Tryz.underlying27 ru rfl (by decide) _ ((Mx i).map fun k=>(.slice (some ⟨qs k,0,none⟩) (eV c d e ws k).length (cs k):Value)) (.slice (some ⟨q4,0,none⟩) (m+e) c4) rfl rfl rfl ?bO HB4w.out HB4w.out.size ?bL ?_;(case bO=>(rw [ML,MM];exact HR4.out.own));(case bL=>(rw [ML,MM];omega));intro v5 w5 ho5 hb5 hg5 hat5;rw [Mz,ML,MM,List.length_singleton] at ho5;have HR5:=Mw (HR4.out.step (Nat.le_trans HB.out.size HQ4.out) (fun k hk=>(by obtain⟨_,_,⟨zs,h3⟩,_⟩:=HR.out.blk k hk;exact MG h3.lt HQ4.out)) (by rw [HCL.out];exact HC4.out) HBK4.out HBY4.out (by rw [HCL.out];exact ho5) hg5);have HB5:=Mw hb5;have HI5:=Mw (show ag w5 gs (j6 c d n) from (hg5.block gs (Blk.lt HI4.out) (own_ne HR4.out.own HI4.out (by decide))).trans HI4.out);clear ho5 hb5 hg5 hat5)))
  go_roundw
  case rel=>exact⟨i+1,o+m,_,_,by go_num,by go_num,by omega,hmn,HNX,HR5,HI5,HB5⟩
  case measure=>simp [intOf]<;>omega
end Go.Proofs.YtgccjgpdjkhpdaaGreat.B
namespace Go.Proofs.YtgccjgpdjkhpdaaGreat.B
open Go.RowKit Go.Proofs.YtgccjgpdjkhpdaaGreatW.PrintWords Go.Proofs.YtgccjgpdjkhpdaaGreatW.PrintLast Go.Proofs.YtgccjgpdjkhpdaaGreatW.PrintMore
set_option linter.unusedVariables false
set_option linter.unusedSimpArgs false
section
variable (c d n:Nat) (code:Nat->Nat->Nat)
def eW (i k:Nat):List Nat:=((Mx i).flatMap fun i=>(Mx n).flatMap fun k=>if i<dl c d k then [code k i] else [])++(Mx k).flatMap fun k=>if i<dl c d k then [code k i] else []
def fW (i k:Nat):List Nat:=((Mx i).flatMap fun i=>(Mx n).map fun k=>code k (dl c d k+i))++(Mx k).map fun k=>code k (dl c d k+i)
theorem zO (i:Nat):eW c d n code i n=eW c d n code (i+1) 0:=by
 unfold eW;rw [ME,MT,MO,MK,MD,M0,MK,MD]
theorem I5 (i k:Nat)(h:i<dl c d k):eW c d n code i (k+1)=eW c d n code i k++[code k i]:=by
 unfold eW;rw [ME,MT,MO,MK,MD,if_pos h,MI]
theorem I6 (i k:Nat)(h:¬ i<dl c d k):eW c d n code i (k+1)=eW c d n code i k:=by
 unfold eW;rw [ME,MT,MO,MK,MD,if_neg h,MD]
theorem zP:fW c d n code 0 0=[]:=rfl
theorem zQ (i:Nat):fW c d n code i n=fW c d n code (i+1) 0:=by
 unfold fW;rw [ME (n:=i),MT,MO,MK,MD,M0,MJ,MD]
theorem I7 (i k:Nat):fW c d n code i (k+1)=fW c d n code i k++[code k (dl c d k+i)]:=by
 unfold fW;rw [ME (n:=k),MH,MQ,MJ,MI]
end
theorem I8 (c d c2 e:Nat)(code:Nat->Nat->Nat):eW c d (c+c2) code (d+1) 0++fW c d (c+c2) code e 0=gM c d c2 e code:=by
 unfold eW fW gM;simp only [M0,MK,MJ,MD]
theorem uh {w:World}{base base' n size:Nat}{e:TypeId}{v:Value}{xs:List Value}(h:w.ownsRow base e size v n xs)(hb:base'<=base):w.ownsRow base' e size v n xs:=by
 obtain⟨h1,h2⟩:=h;refine⟨h1,?_⟩;rcases h2 with h2 | ⟨g,c,cs,k1,k2,k3⟩
 ·exact .inl h2
 exact .inr ⟨g,c,cs,k1,Nat.le_trans hb k2,k3⟩
theorem d9.open {w:World}{B:Nat}{vo:Value}{n:Nat}{code:Nat->List Nat}{qs cs:Nat->Nat}(h:d9 w B vo n code qs cs)(h0:0<n) :
  ∃ q c,vo=.slice (some ⟨q,0,none⟩) n c/\q<w.heap.size/\n<=c/\∀ k,k<n->w.cell? ⟨q,k,none⟩=some (.slice (some ⟨qs k,0,none⟩) (code k).length (cs k)):=by
 obtain⟨h1,h2⟩:=h.own;rcases h2 with⟨_,h3⟩ | ⟨q,c,ys,rfl,hb,hh,hc,hm,hs,ht⟩
 ·omega
 refine⟨q,c,rfl,Blk.lt hh,hc,fun k hk=>?_⟩;rw [Blk.cell hh k];have h5:(ys.toList.take n)[k]? = ((Mx n).map fun k=>(.slice (some ⟨qs k,0,none⟩) (code k).length (cs k):Value))[k]?:=by rw [Nat.mul_one] at ht;rw [ht]
 rw [M4 hk,MS,M5 hk] at h5;rw [<- Array.getElem?_toList,h5];rfl
theorem zR (x:Nat):ak [x]=[(x:Int)]:=rfl
set_option maxHeartbeats 4000000 in
set_option maxRecDepth 8000 in
theorem I9 (w:World)(v l B:Nat)(vo:Value)(cb:Nat->List Nat)(qs cs:Nat->Nat)(hv:1<=v/\v<=40)(hl:l<4)(hR:d9 w B vo (av v l+aE v l) cb qs cs)(hr:∀ k,k<av v l+aE v l->(cb k).length=dl (av v l) (aN v l) k+aW v l)(hw:∀ k,ab 8 (cb k)) :
  Calls Tryz.prog 26 #[vo,.int .i64 (v:Int),.int .i64 (l:Int)] w fun e w'=>∃ v',e=.returned v'/\w'.ownsRow w.heap.size 5 1 v' (bW v/8) (ac .u8 (ak (gM (av v l) (aN v l) (aE v l) (aW v l) fun k i=>(cb k).getD i 0)))/\Below w.heap.size w w':=by
 have k1:=pe w v l hv hl;have K2:=Mw (fun W=>zL W v l hv hl);have L:=eD v l hv hl;have hml:=sT (av v l) (aN v l) (aE v l) (aW v l) (fun k i=>(cb k).getD i 0);rw [L.tot] at hml;have hall:=I8 (av v l) (aN v l) (aE v l) (aW v l) (fun k i=>(cb k).getD i 0);have hc1:=L.c1;have hcc:=L.cc;have he1:=L.e1;have he2:=L.e2;have hd1:=L.d1;have hd2:=L.d2;have hend:=pi (av v l) (aN v l) (aE v l);obtain⟨e,he⟩:∃ e,aW v l=e:=⟨_,rfl⟩;obtain⟨c,hcv⟩:∃ c,av v l=c:=⟨_,rfl⟩;obtain⟨d,hd⟩:∃ d,aN v l=d:=⟨_,rfl⟩;obtain⟨c2,hc2⟩:∃ c2,aE v l=c2:=⟨_,rfl⟩;rw [hcv,hc2] at hcc;rw [he,hcv,hc2] at k1;rw [hcv,hd,hc2] at K2;rw [hcv,hd,hc2,he] at hr;rw [he] at he1 he2;rw [hcv] at hc1;rw [hd] at hd1 hd2;rw [hcv,hc2] at hR;rw [hcv,hd,hc2,he] at hml hall ⊢;obtain⟨n,hnn⟩:∃ n,c+c2=n:=⟨_,rfl⟩;rw [hnn] at k1 K2 hr hcc hR hall;have hn0:0<n:=by omega
 obtain⟨qb,cap,hvo,hqb,hcb,hcell⟩:=hR.open hn0;subst hvo;obtain⟨code,hcode⟩:∃ code:Nat->Nat->Nat,code=fun k i=>(cb k).getD i 0:=⟨_,rfl⟩
 rw [<- hcode] at hml hall ⊢;have hblk:∀ k,k<n->(cb k).length=dl c d k+e/\qs k<w.heap.size/\∀ x,x<dl c d k+e->w.cell? ⟨qs k,x,none⟩=some (.int .u8 ((code k x:Nat):Int)):=fun k hk=>by
  obtain⟨_,h2,⟨ys,h3⟩,h4⟩:=hR.blk k hk;have hlen:=hr k hk;refine⟨hlen,h3.lt,fun x hx=>?_⟩;have:=h4 x (by omega);rw [MN] at this;rw [this,hcode]
 have h8:∀ k x,code k x<256:=fun k x=>by rw [hcode];exact aF (hw k) x
 have HB_:=Mw hblk;have H8:=Mw h8;have HC:=Mw hcell;have HQB:=Mw hqb;have HML:=Mw hml;have HALL:=Mw hall;have HN0:=Mw hn0;have hdl0:dl c d 0=d:=by unfold dl;rw [if_pos (by omega)]
 have HDL0:=Mw hdl0;have HDM:=Mw (show ∀ k,dl c d k<=d+1 from fun k=>by unfold dl;split<;>omega)
 have HE2:=Mw he2;have HLK:∀ k,k<n->(cb k).length=dl c d k+e:=fun k hk=>(hblk k hk).1
 have HLL:=Mw HLK;clear L hml hall hend hr he hcv hd hc2 hR hcell hblk h8 hcode hqb hw hc1 hdl0 he1 HLK hnn
 go_enter Tryz.func26,Tryz.ntmps26
 go_wp2_with (first | (go_at_call 55;refine k1.mono ?_;rintro e0 w1 ⟨rfl,hb1⟩;have HB1:=Mw hb1;clear hb1) | (go_at_call 62;refine (K2.out _).mono ?_;rintro e0 w2 ⟨gs,rfl,hgs,hI,hb2⟩;have HB2:=Mw (HB1.out.trans (hb2.mono HB1.out.size));have HI:=Mw hI;have HGS:=Mw (Blk.lt hI);clear hgs hb2 hI))
 clear k1;have hW2:=HB2.out.size;have HW2:=Mw hW2;have HRD:=Mw (show ∀ W,Below w2.heap.size w2 W->(∀ k,k<n->W.cell? ⟨qb,k,none⟩=some (.slice (some ⟨qs k,0,none⟩) (cb k).length (cs k)))/\(∀ k,k<n->W.cell? ⟨gs,k,none⟩=some (.int .i64 ((dl c d k:Nat):Int)))/\(∀ k x,k<n->x<dl c d k+e->W.cell? ⟨qs k,x,none⟩=some (.int .u8 ((code k x:Nat):Int))) from fun W hW=>by
  have hb:Below w.heap.size w W:=HB2.out.trans (hW.mono HB2.out.size);refine⟨fun k hk=>(hb.cell (p:=⟨qb,k,none⟩) HQB.out).trans (HC.out k hk),fun k hk=>?_,fun k x hk hx=>(hb.cell (p:=⟨qs k,x,none⟩) (HB_.out k hk).2.1).trans ((HB_.out k hk).2.2 x hx)⟩;have:=(ag.cell (Blk.below HI.out hW HGS.out) k (by rw [zK];exact hk))
  rwa [zJ c d n k hk] at this)
 clear hW2
 go_loopw [10,11] (fun vo vi wr=>∃ (i m cm:Nat) (A:Option Addr),vi=.int .i64 (i:Int)/\vo=.slice A m cm/\i<=d+1/\m<=100*i/\Aside0 (m=(eW c d n code i 0).length)/\Aside0 (wr.ownsRow w2.heap.size 5 1 (.slice A m cm) m (ac .u8 (ak (eW c d n code i 0))))/\Aside0 (Below w2.heap.size w2 wr)) (fun _ vi _=>(d+1-intOf vi).toNat)
 case atStart=>exact⟨0,0,0,none,rfl,rfl,by omega,by omega,⟨rfl⟩,⟨⟨rfl,.inl ⟨rfl,rfl⟩⟩⟩,⟨Below.refl _ _⟩⟩
 case round=>
  obtain⟨i,m,cm,A,rfl,rfl,hi,hm,HM,HO,HB⟩:=hrel;have r0:=(HRD.out _ HB.out).2.1 0 HN0.out;rw [HDL0.out] at r0;have hn0i:(0:Int)<(n:Int):=by omega
  by_cases hid:i<=d
  ·have hidi:(i:Int)<=(d:Int):=by omega
   go_wp2
   go_loopw [10,35] (fun vo vk wr=>∃ (k m cm:Nat) (A:Option Addr),vk=.int .i64 (k:Int)/\vo=.slice A m cm/\k<=n/\m<=100*i+k/\Aside0 (m=(eW c d n code i k).length)/\Aside0 (wr.ownsRow w2.heap.size 5 1 (.slice A m cm) m (ac .u8 (ak (eW c d n code i k))))/\Aside0 (Below w2.heap.size w2 wr)) (fun _ vk _=>(n-intOf vk).toNat)
   case atStart=>exact⟨0,m,cm,A,rfl,rfl,by omega,by omega,HM,HO,HB⟩
   case round=>
    clear HM HO HB r0;obtain⟨k,m,cm,A,rfl,rfl,hk,hm,HM,HO,HB⟩:=hrel;by_cases hkn:k<n;rotate_left
    ·have:k=n:=by omega
     subst this
     go_wp2
     go_roundw
     case rel=>exact⟨i+1,m,cm,A,by go_num,rfl,by omega,by omega,⟨by rw [<- zO];exact HM.out⟩,⟨by rw [<- zO];exact HO.out⟩,HB⟩
     case measure=>simp [intOf]<;>omega
    obtain⟨R1,R2,R3⟩:=HRD.out _ HB.out;have r1:=R1 k hkn;have r2:=R2 k hkn;obtain⟨L,hL⟩:∃ L,(cb k).length=L:=⟨_,rfl⟩;have hLk:=HLL.out k hkn;rw [hL] at r1 hLk;obtain⟨D,hD⟩:∃ D,dl c d k=D:=⟨_,rfl⟩;have hD1:=HDM.out k;rw [hD] at r2 hLk hD1;obtain⟨qk,hqk⟩:∃ qk,qs k=qk:=⟨_,rfl⟩;rw [hqk] at r1;by_cases hiD:i<D;rotate_left
    ·have hnx:=I6 c d n code i k (by rw [hD];exact hiD)
     have HM1:=Mw (show m=(eW c d n code i (k+1)).length by rw [hnx];exact HM.out)
     have HO1:=Mw (show wr.ownsRow w2.heap.size 5 1 (.slice A m cm) m (ac .u8 (ak (eW c d n code i (k+1)))) by rw [hnx];exact HO.out)
     clear R1 R2 R3 hL hD hqk hnx
     go_wp2
     go_roundw
     case rel=>exact⟨k+1,m,cm,A,by go_num,rfl,by omega,by omega,HM1,HO1,HB⟩
     case measure=>simp [intOf]<;>omega
    obtain⟨x,hx⟩:∃ x,code k i=x:=⟨_,rfl⟩;have hx8:x<256:=by rw [<- hx];exact H8.out k i
    have r3:=R3 k i hkn (by rw [hD];omega)
    rw [hx,hqk] at r3;have hnx:=I5 c d n code i k (by rw [hD];exact hiD)
    rw [hx] at hnx;have HNX:=Mw hnx.symm;have HML6:=Mw (show m+1=(eW c d n code i (k+1)).length by rw [hnx,Mz,<- HM.out];rfl)
    clear R1 R2 R3 hL hD hqk hx hnx
    go_wp2_with (first | ((with_reducible refine bD (b:=.append) (xs:=#[.tmp 46,.tmp 51]) rfl ?_);at_builtin;refine eI (w0:=w2) w2.heap.size rfl (.tmp 46) (.tmp 51) 26 5 .u8 1 rfl Tryz.underlying26 F.cS (by decide) (.slice A m cm) (ak (eW c d n code i k)) (x:Int) rfl rfl ?aO HB.out HB.out.size ?aL ?_;(case aO=>(rw [ey,<- HM.out];exact HO.out));(case aL=>(rw [ey,<- HM.out];omega));intro v6 w6 ho6 hb6 hg6 hat6;rw [<- zR,<- pg,HNX.out,ey,<- HML6.out] at ho6;obtain⟨A6,c6,hv6⟩:=eh ho6;subst hv6;have HO6:=Mw ho6;have HB6:=Mw hb6;clear ho6 hb6 hg6 hat6))
    go_roundw
    case rel=>exact⟨k+1,m+1,c6,A6,by go_num,rfl,by omega,by omega,HML6,HO6,HB6⟩
    case measure=>simp [intOf]<;>omega
  have:i=d+1:=by omega
  subst this;have hidi:¬ ((d+1:Nat):Int)<=(d:Int):=by omega
  obtain⟨preA,hpre⟩:∃ preA,eW c d n code (d+1) 0=preA:=⟨_,rfl⟩;rw [hpre] at HM HO;rw [hpre] at HALL;clear hpre;obtain⟨di,hdi⟩:∃ di,d+1=di:=⟨_,rfl⟩;rw [hdi] at hidi hm ⊢;have hdi2:di<=201:=by omega
  clear hi hid hdi
  go_wp2
  clear r0
  go_loopw [10,14] (fun vo vi wr=>∃ (i m cm:Nat) (A:Option Addr),vi=.int .i64 (i:Int)/\vo=.slice A m cm/\i<=e/\m<=21000+100*i/\Aside0 (m=(preA++fW c d n code i 0).length)/\Aside0 (wr.ownsRow w2.heap.size 5 1 (.slice A m cm) m (ac .u8 (ak (preA++fW c d n code i 0))))/\Aside0 (Below w2.heap.size w2 wr)) (fun _ vi _=>(e-intOf vi).toNat)
  case atStart=>exact⟨0,m,cm,A,rfl,rfl,by omega,by omega,⟨by rw [zP,MD];exact HM.out⟩,⟨by rw [zP,MD];exact HO.out⟩,HB⟩
  case round=>
   clear HM HO HB hidi hm hdi2;obtain⟨i,m,cm,A,rfl,rfl,hi,hm,HM,HO,HB⟩:=hrel;by_cases hie:i<e;rotate_left
   ·have:i=e:=by omega
    subst this
    go_wp2
    go_ret
    have h1:=HO.out;have h2:=HM.out;have h3:=HALL.out;refine⟨_,rfl,?_,HB2.out.trans (HB.out.mono HW2.out)⟩;rw [h3] at h1 h2;rw [HML.out] at h2;rw [h2] at h1 ⊢;exact uh h1 HW2.out
   go_wp2
   go_loopw [10,61] (fun vo vk wr=>∃ (k m cm:Nat) (A:Option Addr),vk=.int .i64 (k:Int)/\vo=.slice A m cm/\k<=n/\m<=21000+100*i+k/\Aside0 (m=(preA++fW c d n code i k).length)/\Aside0 (wr.ownsRow w2.heap.size 5 1 (.slice A m cm) m (ac .u8 (ak (preA++fW c d n code i k))))/\Aside0 (Below w2.heap.size w2 wr)) (fun _ vk _=>(n-intOf vk).toNat)
   case atStart=>exact⟨0,m,cm,A,rfl,rfl,by omega,by omega,HM,HO,HB⟩
   case round=>
    clear HM HO HB;obtain⟨k,m,cm,A,rfl,rfl,hk,hm,HM,HO,HB⟩:=hrel;by_cases hkn:k<n;rotate_left
    ·have:k=n:=by omega
     subst this
     go_wp2
     go_roundw
     case rel=>exact⟨i+1,m,cm,A,by go_num,rfl,by omega,by omega,⟨by rw [<- zQ];exact HM.out⟩,⟨by rw [<- zQ];exact HO.out⟩,HB⟩
     case measure=>simp [intOf]<;>omega
    obtain⟨R1,R2,R3⟩:=HRD.out _ HB.out;have r1:=R1 k hkn;have r2:=R2 k hkn;obtain⟨L,hL⟩:∃ L,(cb k).length=L:=⟨_,rfl⟩;have hLk:=HLL.out k hkn;rw [hL] at r1 hLk;obtain⟨D,hD⟩:∃ D,dl c d k=D:=⟨_,rfl⟩;have hD1:=HDM.out k;rw [hD] at r2 hLk hD1;obtain⟨qk,hqk⟩:∃ qk,qs k=qk:=⟨_,rfl⟩;rw [hqk] at r1;obtain⟨p,hp⟩:∃ p,D+i=p:=⟨_,rfl⟩;have hpi:(D:Int)+(i:Int)=(p:Int):=by omega
    have hpL:p<L:=by omega
    obtain⟨x,hx⟩:∃ x,code k p=x:=⟨_,rfl⟩;have hx8:x<256:=by rw [<- hx];exact H8.out k p
    have r3:=R3 k p hkn (by rw [hD];omega)
    rw [hx,hqk] at r3;have hnx:=I7 c d n code i k;rw [hD,hp,hx] at hnx;have hnx2:preA++fW c d n code i (k+1)=preA++fW c d n code i k++[x]:=by rw [hnx,MI]
    have HNX:=Mw hnx2.symm;have HML6:=Mw (show m+1=(preA++fW c d n code i (k+1)).length by rw [hnx2,Mz,<- HM.out];rfl)
    clear R1 R2 R3 hL hD hqk hx hnx hnx2 hp
    go_wp2_with (first | ((with_reducible refine bD (b:=.append) (xs:=#[.tmp 66,.tmp 76]) rfl ?_);at_builtin;refine eI (w0:=w2) w2.heap.size rfl (.tmp 66) (.tmp 76) 26 5 .u8 1 rfl Tryz.underlying26 F.cS (by decide) (.slice A m cm) (ak (preA++fW c d n code i k)) (x:Int) rfl rfl ?aO HB.out HB.out.size ?aL ?_;(case aO=>(rw [ey,<- HM.out];exact HO.out));(case aL=>(rw [ey,<- HM.out];omega));intro v6 w6 ho6 hb6 hg6 hat6;rw [<- zR,<- pg,HNX.out,ey,<- HML6.out] at ho6;obtain⟨A6,c6,hv6⟩:=eh ho6;subst hv6;have HO6:=Mw ho6;have HB6:=Mw hb6;clear ho6 hb6 hg6 hat6))
    go_roundw
    case rel=>exact⟨k+1,m+1,c6,A6,by go_num,rfl,by omega,by omega,HML6,HO6,HB6⟩
    case measure=>simp [intOf]<;>omega
theorem zS (v l:Nat)(ws:List Nat)(hv:1<=v/\v<=40)(hl:l<4)(hr:ws.length=cz v l)(k:Nat)(hk:k<av v l+aE v l):(eV (av v l) (aN v l) (aW v l) ws k).length=dl (av v l) (aN v l) k+aW v l:=by
 have hend:=pi (av v l) (aN v l) (aE v l);have he1:=(eD v l hv hl).e1;unfold cz at hr;rw [<- hend] at hr;unfold eV;have hm:=rN (av v l) (aN v l) (k+1) (av v l+aE v l-(k+1));rw [show k+1+(av v l+aE v l-(k+1))=av v l+aE v l by omega,nR] at hm;rw [Mz,nQ _ _ he1,rO _ _ ws k (by omega)]
end Go.Proofs.YtgccjgpdjkhpdaaGreat.B
namespace Go.Proofs.YtgccjgpdjkhpdaaGreat.B
open Go.RowKit Go.Proofs.YtgccjgpdjkhpdaaGreatW.PrintWords Go.Proofs.YtgccjgpdjkhpdaaGreatW.PrintLast Go.Proofs.YtgccjgpdjkhpdaaGreatW.PrintMore
set_option linter.unusedVariables false
set_option linter.unusedSimpArgs false
theorem Ja (xs:List Nat)(i:Nat)(h:i<xs.length):aZ (xs.take (i+1))=aZ (xs.take i)++aD (xs.getD i 0) 8:=by
 unfold aZ;rw [M3 h,MT,MO,MK,MD,My,MA h];rfl
set_option maxHeartbeats 1000000 in
set_option maxRecDepth 8000 in
theorem Jb (w:World)(q N cN:Nat)(xs:List Nat)(hD:dZ w q 0 xs)(hq:q<w.heap.size)(hn:xs.length=N)(hN:N<=100000)(hx:ab 8 xs) :
  Calls Tryz.prog 29 #[.slice (some ⟨q,0,none⟩) N cN] w fun e w'=>∃ v',e=.returned v'/\cJ w' w.heap.size v' (aZ xs)/\Below w.heap.size w w':=by
 have HD:=Mw hD;have HQ:=Mw hq;have HN:=Mw hn;have HX:=Mw hx;clear hD hq hn hx
 go_enter Tryz.func29,Tryz.ntmps29
 go_wp2
 go_loopw [3,8] (fun vo vi wr=>∃ i:Nat,vi=.int .i64 (i:Int)/\i<=N/\Aside0 (cJ wr w.heap.size vo (aZ (xs.take i)))/\Aside0 (Below w.heap.size w wr)) (fun _ vi _=>(N-intOf vi).toNat)
 case atStart=>exact⟨0,rfl,MF _,⟨⟨rfl,.inl ⟨rfl,rfl⟩⟩⟩,⟨Below.refl _ _⟩⟩
 case round=>
  obtain⟨i,rfl,hi,HO,HB⟩:=hrel;by_cases hin:i<N;rotate_left
  ·have:i=N:=by omega
   subst this
   go_wp2
   go_ret
   exact⟨_,rfl,by have:=HO.out;rwa [MR (by rw [HN.out];omega)] at this,HB.out⟩
  obtain⟨x,hxx⟩:∃ x,xs.getD i 0=x:=⟨_,rfl⟩;have hx8:x<256:=by rw [<- hxx];exact aF HX.out i
  have r0:=(HD.out.below HB.out HQ.out) i (by rw [HN.out];exact hin)
  rw [MN,hxx] at r0;have hnx:=Ja xs i (by rw [HN.out];exact hin)
  rw [hxx] at hnx;have kad:=ph w wr w.heap.size x 8 _ _ (x:Int) 8 rfl rfl HO.out HB.out HB.out.size (by omega) (by decide) (by rw [mJ,List.length_take];omega)
  rw [<- hnx] at kad;clear hnx hxx
  go_wp2_with (go_at_call 66;with_reducible (refine kad.mono ?_);rintro e w2 ⟨v2,rfl,hO2,hB2,hG2⟩;have HO2:=Mw hO2;have HB2:=Mw hB2;clear hO2 hB2 hG2)
  go_roundw
  case rel=>exact⟨i+1,by go_num,by omega,HO2,HB2⟩
  case measure=>simp [intOf]<;>omega
structure cP (w:World)(B g n:Nat)(q cp:Nat->Nat)(cf:Nat->Nat->Bool):Prop where
 base:B<=g
 blk:∃ cells,Blk w g 45 cells/\cells.size=cp n/\cp n<=maxLen
 row:∀ r,r<n->w.cell? ⟨g,r,none⟩=some (.slice (some ⟨q r,0,none⟩) n (cp r))/\B<=q r/\n<=cp r/\(∃ cells,Blk w (q r) 4 cells)/\∀ c,c<n->w.cell? ⟨q r,c,none⟩=some (.bool (cf r c))
 inj:∀ r s,r<n->s<n->q r=q s->r=s
theorem cP.below {w w':World}{B D g n:Nat}{q cp:Nat->Nat}{cf:Nat->Nat->Bool}(h:cP w B g n q cp cf)(hb:Below D w w')(hD:w.heap.size<=D):cP w' B g n q cp cf:=by
 obtain⟨h1,⟨cs,h2,hz⟩,h3,h4⟩:=h;have hg:=MG (Blk.lt h2) hD;refine⟨h1,⟨cs,Blk.below h2 hb hg,hz⟩,fun r hr=>?_,h4⟩;obtain⟨k1,k2,k3,⟨ys,k4⟩,k5⟩:=h3 r hr;have hq:=MG (Blk.lt k4) hD;exact⟨(hb.cell (p:=⟨g,r,none⟩) hg).trans k1,k2,k3,⟨ys,Blk.below k4 hb hq⟩,fun c hc=>(hb.cell (p:=⟨q r,c,none⟩) hq).trans (k5 c hc)⟩
theorem cP.set {w:World}{B g n:Nat}{q cp:Nat->Nat}{cf:Nat->Nat->Bool}(h:cP w B g n q cp cf)(r c:Nat)(b:Bool)(hr:r<n)(hc:c<n) :
  cP (w.setCell ⟨q r,c,none⟩ (.bool b)) B g n q cp (fun r' c'=>if r'=r/\c'=c then b else cf r' c'):=by
 obtain⟨h1,⟨cs,h2,hz⟩,h3,h4⟩:=h;obtain⟨_,_,_,⟨yr,kr⟩,kc⟩:=h3 r hr;have hgq:g≠q r:=bd h2 kr (by decide);refine⟨h1,⟨cs,h2.far (p:=⟨q r,c,none⟩) hgq _,hz⟩,fun s hs=>?_,h4⟩;obtain⟨k1,k2,k3,⟨ys,k4⟩,k5⟩:=h3 s hs;refine⟨by rw [World.cell?_setCell_other _ _ _ _ (fun e=>hgq (congrArg Addr.block e).symm)];exact k1,k2,k3,?_,fun x hx=>?_⟩
 ·by_cases hsr:q s=q r;rotate_left
  ·exact⟨ys,k4.far (p:=⟨q r,c,none⟩) hsr _⟩
  obtain rfl:=h4 s r hs hr hsr;exact⟨_,bK k4 c (.bool b)⟩
 by_cases hsr:s=r;rotate_left
 ·rw [if_neg (fun h=>hsr h.1),World.cell?_setCell_other _ _ _ _ (fun e=>hsr (h4 s r hs hr (congrArg Addr.block e).symm))];exact k5 x hx
 subst hsr;by_cases hxc:x=c
 ·subst hxc;rw [if_pos ⟨rfl,rfl⟩];exact World.cell?_setCell_same _ _ _ (k5 x hx)
 rw [if_neg (fun h=>hxc h.2),World.cell?_setCell_other _ _ _ _ (fun e=>hxc (congrArg Addr.off e).symm)];exact k5 x hx
theorem zT (n:Nat)(cf:Nat->Nat->Bool)(r:Nat)(hr:r<n):(aK n cf n)[r]? = some (ie n cf r):=by
 unfold aK;rw [MS,M5 hr];rfl
theorem zU {w:World}{base:Nat}{ok:Nat->Prop}{v:Value}{n:Nat}{cf:Nat->Nat->Bool}(h:Kd.S (Kd.slice 4 Kd.bool) 45 w base ok v (aK n cf n))(h0:0<n) :
  ∃ g cap q cp,v=.slice (some ⟨g,0,none⟩) n cap/\(n<=cap/\cp n=cap)/\cP w base g n q cp cf:=by
 obtain⟨f,h⟩:=h;have hl:(aK n cf n).zipIdx.length=n:=by rw [List.length_zipIdx,gN]
 obtain⟨g,cap,hv,hb,hg,hcells⟩:=Kd.mr h (by omega);rw [hl] at hv;subst hv;obtain⟨_,hnc,_⟩:=Kd.fi h;have hsz:∃ cells,Blk w g 45 cells/\cells.size=cap/\cap<=maxLen:=by
  obtain⟨_,inner,⟨_,ho⟩,_⟩:=h;rcases ho with⟨hv,_⟩ | ⟨g',cap',cur,hv,_,hh,_,hm,hs,_⟩
  ·cases hv
  injection hv with e1 e2 e3;injection e1 with e1;injection e1 with e1;subst e1 e3;have hs':cur.size=cap*1:=hs;exact⟨cur,hh,by omega,hm⟩
 have hex:∀ r,∃ qc:Nat×Nat,(¬ r<n->qc.2=cap)/\(r<n->w.cell? ⟨g,r,none⟩=some (.slice (some ⟨qc.1,0,none⟩) n qc.2)/\base<=qc.1/\n<=qc.2/\(∃ cells,Blk w qc.1 4 cells)/\(∀ c,c<n->w.cell? ⟨qc.1,c,none⟩=some (.bool (cf r c)))/\f qc.1=r):=fun r=>by
  by_cases hr:r<n;rotate_left
  ·exact⟨(0,cap),fun _=>rfl,fun h=>absurd h hr⟩
  obtain⟨c,hcl,hM,hcc,_⟩:=Kd.pQ h (([]:List Bool),0) (r:Int) (by omega) (by omega);have hget:(aK n cf n).zipIdx.getD (r:Int).toNat (([]:List Bool),0)=(ie n cf r,r):=by
   rw [Int.toNat_natCast,My,List.getElem?_zipIdx,zT n cf r hr];simp
  rw [hget] at hM;obtain⟨v',rfl,hR⟩:=hM;have hrl:(ie n cf r).length=n:=by simp [ie]
  obtain⟨q,cq,hv',hbq,hlq,ys,hys⟩:=Kd.mr hR (by show 0<(ie n cf r).length;omega)
  rw [show ((ie n cf r,r).1).length=n from hrl] at hv';subst hv';obtain⟨_,hncq,_⟩:=Kd.fi hR;refine⟨(q,cq),fun h=>absurd hr h,fun _=>⟨?_,hbq,hncq,⟨ys,hys⟩,fun c hc=>?_,?_⟩⟩
  ·have:=hcc 0 _ rfl;have e:(r:Int).toNat*(Kd.tag f (Kd.slice 4 Kd.bool)).sz+0=r:=by show (r:Int).toNat*1+0=r;omega
   rw [e] at this;exact this
  rotate_left
  ·have:=hR.1 q rfl;exact this.2
  obtain⟨c2,hcl2,hM2,hcc2,_⟩:=Kd.pQ hR false (c:Int) (by omega) (by omega);have hget2:(ie n cf r).getD (c:Int).toNat false=cf r c:=by
   rw [Int.toNat_natCast,My];simp [ie,MS,M5 hc]
  rw [hget2] at hM2;have hM3:c2=[.bool (cf r c)]:=hM2;have:=hcc2 0 (.bool (cf r c)) (by rw [hM3];rfl)
  have e:(c:Int).toNat*Kd.bool.sz+0=c:=by show (c:Int).toNat*1+0=c;omega
  rw [e] at this;exact this
 refine⟨g,cap,fun r=>(hex r).choose.1,fun r=>(hex r).choose.2,rfl,⟨hnc,(hex n).choose_spec.1 (Nat.lt_irrefl n)⟩,⟨hb,by rw [(hex n).choose_spec.1 (Nat.lt_irrefl n)];exact hsz,fun r hr=>?_,fun r s hr hs he=>?_⟩⟩
 ·obtain⟨k1,k2,k3,k4,k5,_⟩:=(hex r).choose_spec.2 hr;exact⟨k1,k2,k3,k4,k5⟩
 have k1:=((hex r).choose_spec.2 hr).2.2.2.2.2;have k2:=((hex s).choose_spec.2 hs).2.2.2.2.2;rw [<- k1,<- k2,he]
theorem ui:Go.Maps.Keyed Tryz.prog 3:=Go.Maps.int_keyed Tryz.underlying3
theorem zV (p:Nat)(hp:p<=100000):Go.keyOf Tryz.prog 3 (.int .i64 (p:Int))=some (.int .i64 (p:Int)):=Go.Maps.keyOf_int_mk Tryz.underlying3 (by have h1:IntKind.i64.min=-9223372036854775808:=rfl;have h2:IntKind.i64.max=9223372036854775807:=rfl;simp only [Lit.wf,Bool.and_eq_true,decide_eq_true_eq];omega)
def eu (w:World)(mb:Nat)(ps:List Nat):Prop:=∃ D:DataW Unit,w.ownsMap Tryz.prog 3 (plainElem Tryz.prog 4) mb ps.length D/\Maps.size D=ps.length/\∀ p:Nat,Maps.has D (.int .i64 (p:Int))=true->p∈ps
theorem eu.lt {w:World}{mb:Nat}{ps:List Nat}(h:eu w mb ps):mb<w.heap.size:=by
 obtain⟨D,h1,_⟩:=h;exact h1.lt
theorem eu.move {w w':World}{mb:Nat}{ps:List Nat}(h:eu w mb ps)(hm:w'.heap[mb]? = w.heap[mb]?):eu w' mb ps:=by
 obtain⟨D,⟨es,clock,hb,h1⟩,h2⟩:=h;exact⟨D,⟨es,clock,hm.trans hb,h1⟩,h2⟩
theorem eu.new (w:World):eu (w.alloc (.map #[] 0)) w.heap.size []:=⟨.map [],World.ownsMap_made w _ _ _,rfl,fun p hp=>by simp [Maps.has] at hp⟩
theorem Jc (w:World):(zeroValue 4).run Tryz.prog w=.ok (.bool false) w:=by
 kernel_rfl
theorem Jd {H:Type}{P:Program}{e:TypeId}(he:P.underlying e=some .bool){v:Value}{z:DataW H×List MemPlace}(h:plainElem P e v=some z):∃ x,v=.bool x:=by
 unfold plainElem at h;rw [he] at h;cases v<;>simp at h
 exact⟨_,rfl⟩
theorem eu.look {w:World}{mb:Nat}{ps:List Nat}(h:eu w mb ps)(p:Nat)(hp:p<=100000):∃ x,(Instr.lookup 128 (.map (some mb)) (.int .i64 (p:Int)) false).run Tryz.prog w=.ok (.bool x) w:=by
 obtain⟨D,h1,_⟩:=h;obtain⟨v,ps',hrun,hv⟩:=h1.lookup ui Tryz.underlying128 (Jc w) (plainElem_bool Tryz.underlying4 false) (zV p hp);obtain⟨x,rfl⟩:=Jd Tryz.underlying4 hv;exact⟨_,hrun⟩
theorem eu.len {w:World}{mb:Nat}{ps:List Nat}(h:eu w mb ps)(ty:TypeId):(Builtin.len_ #[128] ty #[.map (some mb)]).run Tryz.prog w=.ok (.int .i64 (ps.length:Int)) w:=by
 obtain⟨D,h1,h2,_⟩:=h;rw [<- h2];exact h1.len Tryz.underlying128 ty
theorem eu.put {w:World}{mb:Nat}{ps:List Nat}(h:eu w mb ps)(p:Nat)(hp:p<=100000)(hn:ps.length<=1000) :
  ∃ w' ps',(Instr.mapUpdate 128 (.map (some mb)) (.int .i64 (p:Int)) (.bool true)).run Tryz.prog w=.ok () w'/\eu w' mb ps'/\p∈ps'/\(∀ x∈ps,x∈ps')/\ps'.length<=ps.length+1/\af w w' mb:=by
 obtain⟨D,h1,h2,h3⟩:=h;obtain⟨w',hrun,h4,h5⟩:=h1.store ui Tryz.underlying128 (by have:maxLen=9223372036854775807:=rfl;omega) (zV p hp) (plainElem_bool Tryz.underlying4 true)
 have hT:=h1.tidy ui;have hM:=h1.isMap;have hk:WideAt.IsKeyLit (Lit.int .i64 (p:Int)):=by simp [WideAt.IsKeyLit]
 have hsz:=Maps.size_put (k:=Lit.int .i64 (p:Int)) hT (.lit (.bool true));obtain⟨es,clock,es',clock',hb,rfl⟩:=h5;have hturn:af w (ChangeMaps.setBlock w mb (.map es' clock')) mb:=⟨rfl,rfl,rfl,by simp [ChangeMaps.setBlock],fun i hi=>ChangeMaps.heap_setBlock_other hb _ (fun e=>hi e)⟩;have re:∀ n,(ChangeMaps.setBlock w mb (.map es' clock')).ownsMap Tryz.prog 3 (plainElem Tryz.prog 4) mb n (D.put (.int .i64 (p:Int)) (.lit (.bool true)))->(ChangeMaps.setBlock w mb (.map es' clock')).ownsMap Tryz.prog 3 (plainElem Tryz.prog 4) mb (Maps.size (D.put (.int .i64 (p:Int)) (.lit (.bool true)))) (D.put (.int .i64 (p:Int)) (.lit (.bool true))):=by
  rintro n ⟨e1,c1,q1,q2,q3,q4⟩;refine⟨e1,c1,q1,q2,?_,q4⟩;rw [q4,Maps.size_eq,length_sorted];simp
 have hold:∀ q:Nat,q≠p->Maps.has (D.put (.int .i64 (p:Int)) (.lit (.bool true))) (.int .i64 (q:Int))=Maps.has D (.int .i64 (q:Int)):=fun q hq=>Maps.has_put_other (by intro e;injection e with _ e;omega) _
 by_cases hin:Maps.has D (.int .i64 (p:Int))=true
 ·rw [if_pos hin,h2] at hsz;refine⟨_,ps,hrun,⟨_,hsz ▸ re _ h4,hsz,fun q hq=>?_⟩,h3 p hin,fun x hx=>hx,by omega,hturn⟩;by_cases hqp:q=p
  ·rw [hqp];exact h3 p hin
  rw [hold q hqp] at hq;exact h3 q hq
 rw [if_neg hin,h2] at hsz;refine⟨_,p :: ps,hrun,⟨_,(by rw [List.length_cons];exact hsz ▸ re _ h4),by rw [List.length_cons];exact hsz,fun q hq=>?_⟩,by simp,fun x hx=>by simp [hx],by simp,hturn⟩
 by_cases hqp:q=p
 ·rw [hqp];simp
 rw [hold q hqp] at hq;exact List.mem_cons_of_mem _ (h3 q hq)
def rP (hs:Nat->Option Nat)(i:Nat):Value:=.map (hs i)
def lU (n:Nat)(hs:Nat->Option Nat):List Value:=(Mx n).map (rP hs)
theorem Je:(Tryz.prog.info? 128).map (fun i=>(i.zero,i.size,i.bytes))=some (some (.map none),1,8):=by kernel_rfl
theorem Jf (n:Nat)(h:n<=1000000)(w:World):(Instr.makeSlice 125 (.int .i64 (n:Int)) (.int .i64 (n:Int))).run Tryz.prog w=.ok (.slice (some ⟨w.heap.size,0,none⟩) n n) (w.alloc (.cells (lU n fun _=>none).toArray 128)):=by
 obtain⟨i,hi,hz,hs,hb⟩:=info_parts Je;have:=mH (P:=Tryz.prog) 125 128 i (.map none) Tryz.underlying125 hi hz .i64 .i64 n n (MB _) (by rw [hb];omega) (by omega) w
 have e:madeCells (Value.map none).cells (n*1)=(lU n fun _=>none).toArray:=by
  apply Array.toList_inj.1;rw [Nat.mul_one];refine (toList_madeCells_one _ _).trans ?_;unfold lU;apply List.ext_getElem
  ·simp
  intro i h1 h2;simp [rP]
 rw [hs,e] at this;exact this
end Go.Proofs.YtgccjgpdjkhpdaaGreat.B
