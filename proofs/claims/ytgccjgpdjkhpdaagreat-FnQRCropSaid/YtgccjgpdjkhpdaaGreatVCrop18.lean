import Derived.BigQuiet
import Derived.Laws.BitsAllLaws
import Derived.Test.YtgccjgpdjkhpdaaGreatVCrop11
import Derived.Test.YtgccjgpdjkhpdaaGreatVCrop12
import Derived.Test.YtgccjgpdjkhpdaaGreatVCrop17
/-! Own texts of this claim, part 18. -/
namespace Go.Proofs.YtgccjgpdjkhpdaaGreat.B
open Go.RowKit Go.Proofs.YtgccjgpdjkhpdaaGreatW.PrintWords Go.Proofs.YtgccjgpdjkhpdaaGreatW.PrintLast Go.Proofs.YtgccjgpdjkhpdaaGreatW.PrintMore
set_option linter.unusedVariables false
set_option linter.unusedSimpArgs false
theorem arr40_one (l:List Int):(arr40 l).all (·.oneCell')=true:=by
 rw [Array.all_eq_true_iff_forall_mem]
 intro x hx
 unfold arr40 nums at hx
 obtain⟨y,_,rfl⟩:=List.mem_map.1 (by simpa using hx)
 rfl
theorem arr40_len (l:List Int):(arr40 l).size=l.length:=by simp [arr40,nums]
theorem z40_size:z40.size=40:=by rw [z40,arr40_len];simp
set_option maxHeartbeats 2000000 in
set_option maxRecDepth 8000 in
theorem corr55' (w:World)(v l:Nat)(E B:List Int)(hE:E.length=40)(hB:B.length=40)(hv:1<=v/\v<=40)
  (k:∀ W,Calls Tryz.prog 101 #[.int .i64 (l:Int)] W fun e w'=>e=.returned (.tuple #[.agg (arr40 E),.agg (arr40 B)])/\Below W.heap.size W w') :
  Calls Tryz.prog 55 #[.int .i64 (v:Int),.int .i64 (l:Int)] w fun e w'=>e=.returned (.tuple #[.int .i64 (E.getD (v-1) 0),.int .i64 (B.getD (v-1) 0)])/\Below w.heap.size w w':=by
 obtain⟨i,hi⟩:∃ i,v-1=i:=⟨_,rfl⟩
 rw [hi]
 obtain⟨ee,hee⟩:∃ ee,E.getD i 0=ee:=⟨_,rfl⟩
 obtain⟨bb,hbb⟩:∃ bb,B.getD i 0=bb:=⟨_,rfl⟩
 rw [hee,hbb]
 have HEE:=Aside0.mk hee
 have HBB:=Aside0.mk hbb
 have HII:=Aside0.mk hi
 have HE:=Aside0.mk hE
 have HBl:=Aside0.mk hB
 have hv1:1<=v:=hv.1
 have hv2:v<=40:=hv.2
 have K:=Aside0.mk k
 clear hE hB hv k hee hbb hi
 go_enter Tryz.func55,Tryz.ntmps55
 go_wp2_with fail
 refine (K.out w).mono ?_
 rintro e w1 ⟨rfl,hb1⟩
 have HB1:=Aside0.mk hb1
 have hz:w.heap.size<=w1.heap.size:=hb1.size
 clear hb1
 obtain⟨w2,hw2⟩:∃ w2,w2=(((w1.alloc (.cells z40 167)).alloc (.cells z40 167)).setRow w1.heap.size (arr40 E)).setRow (w1.heap.size+1) (arr40 B):=⟨_,rfl⟩
 have h1:Blk w2 w1.heap.size 167 (arr40 E):=by rw [hw2];exact (setRow_far _ (by omega)).trans (setRow_heap _ _ _ _ 167 _ (heap_alloc2_old _ _ _))
 have h2:Blk w2 (w1.heap.size+1) 167 (arr40 B):=by rw [hw2];exact setRow_heap _ _ _ _ 167 _ ((setRow_far _ (by omega)).trans (heap_alloc2_new _ _ _))
 have HB2:=Aside0.mk (show Below w.heap.size w w2 by rw [hw2];exact setRow_below _ (setRow_below _ ((HB1.out.alloc hz _).alloc (by simp;omega) _) hz) (by omega))
 have hi40:i<40:=by have:=HII.out;omega
 have hvi:(v:Int)-1=(i:Int):=by have:=HII.out;omega
 have c1:w2.cell? ⟨w1.heap.size,i,none⟩=some (.int .i64 (E.getD i 0)):=by
  have:=Blk.ucell (xs:=E) h1 (i:Int) (by omega) (by rw [HE.out];omega)
  rw [Int.toNat_natCast] at this
  rw [this];unfold rd;rw [Int.toNat_natCast]
 have c2:w2.cell? ⟨w1.heap.size+1,i,none⟩=some (.int .i64 (B.getD i 0)):=by
  have:=Blk.ucell (xs:=B) h2 (i:Int) (by omega) (by rw [HBl.out];omega)
  rw [Int.toNat_natCast] at this
  rw [this];unfold rd;rw [Int.toNat_natCast]
 rw [HEE.out] at c1
 rw [HBB.out] at c2
 have HW2:=Aside0.mk hw2
 have HS1:=Aside0.mk (heap_alloc2_old w1 (.cells z40 167) (.cells z40 167))
 have HS2:=Aside0.mk (show (((w1.alloc (.cells z40 167)).alloc (.cells z40 167)).setRow w1.heap.size (arr40 E)).heap[w1.heap.size+1]? = some (.cells z40 167 (0,0)) from (setRow_far _ (by omega)).trans (heap_alloc2_new _ _ _))
 have HI1:=Aside0.mk (show (Tryz.prog.info? 167).map (·.size)=some (arr40 E).size by rw [arr40_len,HE.out];exact info167)
 have HI2:=Aside0.mk (show (Tryz.prog.info? 167).map (·.size)=some (arr40 B).size by rw [arr40_len,HBl.out];exact info167)
 have HZ1:=Aside0.mk (show z40.size=(arr40 E).size by rw [arr40_len,HE.out];exact z40_size)
 have HZ2:=Aside0.mk (show z40.size=(arr40 B).size by rw [arr40_len,HBl.out];exact z40_size)
 clear h1 h2 hw2
 go_wp2_with (first | ((with_reducible refine gate_dst (N:=6) rfl ?_);refine wpList_allocA rfl 167 rfl _ (alloc167 _) ?_) | ((with_reducible refine gate_dst (N:=7) rfl ?_);refine wpList_allocA rfl 167 rfl _ (alloc167 _) ?_) | (refine wpList_store_row rfl 167 (.tmp 6) (.tmp 11) rfl w1.heap.size (arr40 E) rfl rfl 167 z40 HS1.out HI1.out HZ1.out (arr40_one _) ?_) | (refine wpList_store_row (g:=w1.heap.size+1) (cells:=arr40 B) (t:=167) (old:=z40) ?s1 167 (.tmp 7) (.tmp 12) ?s2 ?s3 ?s4 HS2.out HI2.out HZ2.out (arr40_one _) ?_;(case s1=>rfl);(case s2=>rfl);(case s3=>(first | rfl | simp [Act.eval,Act.put]));(case s4=>(first | rfl | simp [Act.eval,Act.put]))))
 rw [<- HW2.out]
 have hvw:IntKind.i64.wrap ((v:Int)-1)=(i:Int):=by rw [hvi];exact IntWalk.i64_in _ (by omega)
 have hq0:(0:Int)<=(i:Int):=by omega
 have hq1:(i:Int)<40:=by omega
 clear hvi
 go_quiet (fail)
 go_wp2
 go_ret2
 exact⟨rfl,pw_below_drewN HB2.out _⟩
def ecTab (l:Nat):List Int:=if l=0 then ecT0 else if l=1 then ecT1 else if l=2 then ecT2 else ecT3
def blTab (l:Nat):List Int:=if l=0 then blT0 else if l=1 then blT1 else if l=2 then blT2 else blT3
theorem corr101 (W:World)(l:Nat)(h:l<4):Calls Tryz.prog 101 #[.int .i64 (l:Int)] W fun e w'=>e=.returned (.tuple #[.agg (arr40 (ecTab l)),.agg (arr40 (blTab l))])/\Below W.heap.size W w':=by
 have hl:l=0\/l=1\/l=2\/l=3:=by omega
 rcases hl with rfl | rfl | rfl | rfl
 ·exact corr101_0 W
 ·exact corr101_1 W
 ·exact corr101_2 W
 ·exact corr101_3 W
theorem tab_look:∀ v:Fin 40,∀ l:Fin 4,(ecTab l.val).getD v.val 0=(lvE (v.val+1) l.val:Int)/\(blTab l.val).getD v.val 0=((lvC (v.val+1) l.val+lvC2 (v.val+1) l.val:Nat):Int):=by decide +kernel
theorem tab_len:∀ l:Fin 4,(ecTab l.val).length=40/\(blTab l.val).length=40:=by decide +kernel
theorem corr55 (w:World)(v l:Nat)(hv:1<=v/\v<=40)(hl:l<4) :
  Calls Tryz.prog 55 #[.int .i64 (v:Int),.int .i64 (l:Int)] w fun e w'=>e=.returned (.tuple #[.int .i64 (lvE v l:Int),.int .i64 ((lvC v l+lvC2 v l:Nat):Int)])/\Below w.heap.size w w':=by
 have ht:=tab_look ⟨v-1,by omega⟩ ⟨l,hl⟩
 have hlen:=tab_len ⟨l,hl⟩
 simp only [show v-1+1=v by omega] at ht
 have:=corr55' w v l (ecTab l) (blTab l) hlen.1 hlen.2 hv (fun W=>corr101 W l hl)
 rw [ht.1,ht.2] at this
 exact this
theorem total_look:∀ v:Fin 40,F.spec_QRTotal.f 60 ((v.val+1:Nat):Int)=some ((roomN (v.val+1)/8:Nat):Int):=by decide +kernel
theorem total56 (w:World)(v:Nat)(hv:1<=v/\v<=40):Calls Tryz.prog 56 #[.int .i64 (v:Int)] w fun e w'=>e=.returned (.int .i64 ((roomN v/8:Nat):Int))/\Below w.heap.size w w':=by
 have h:=total_look ⟨v-1,by omega⟩
 simp only [show v-1+1=v by omega] at h
 refine (F.spec_QRTotal.calls 60 v _ w h).mono ?_
 rintro e w' ⟨rfl,hb⟩
 exact⟨rfl,hb⟩
def roomD (v l:Nat):Nat:=lvD v l*(lvC v l+lvC2 v l)+lvC2 v l
theorem words22 (w:World)(v l:Nat)(hv:1<=v/\v<=40)(hl:l<4):Calls Tryz.prog 22 #[.int .i64 (v:Int),.int .i64 (l:Int)] w fun e w'=>e=.returned (.int .i64 (roomD v l:Int))/\Below w.heap.size w w':=by
 have k1:=corr55 w v l hv hl
 have L:=lay_at v l hv hl
 have h1:=L.tot
 have h2:=(tot_row v hv).2
 have K2:=Aside0.mk (fun W=>total56 W v hv)
 obtain⟨e,he⟩:∃ e,lvE v l=e:=⟨_,rfl⟩
 obtain⟨n,hn⟩:∃ n,lvC v l+lvC2 v l=n:=⟨_,rfl⟩
 obtain⟨T,hT⟩:∃ T,roomN v/8=T:=⟨_,rfl⟩
 obtain⟨q,hq⟩:∃ q,e*n=q:=⟨_,rfl⟩
 have hr:T=roomD v l+q:=by unfold roomD;rw [he,hn,hT,hq] at h1;rw [hn];omega
 obtain⟨r,hrr⟩:∃ r,roomD v l=r:=⟨_,rfl⟩
 rw [he,hn] at k1
 rw [hrr] at hr ⊢
 rw [hT] at K2
 have hT5:T<=5000:=by omega
 have hqw:wrap64 ((e:Int)*(n:Int))=(q:Int):=by
  have:(e:Int)*(n:Int)=(q:Int):=by rw [<- hq];simp
  rw [this];unfold wrap64;omega
 have hrw:(T:Int)-(q:Int)=(r:Int):=by omega
 clear L h1 h2 he hn hT hq hrr hr
 go_enter Tryz.func22,Tryz.ntmps22
 go_wp2_with (first | (go_at_call 55;refine k1.mono ?_;rintro e w1 ⟨rfl,hb1⟩;have HB1:=Aside0.mk hb1;clear hb1) | (go_at_call 56;refine (K2.out _).mono ?_;rintro e w2 ⟨rfl,hb2⟩;have HB2:=Aside0.mk (HB1.out.trans (hb2.mono HB1.out.size));clear hb2))
 go_ret
 exact⟨by rfl,HB2.out⟩
def pack (bits:List Bool):List Nat:=(List.range (bits.length/8)).map fun j=>bval (seg bits (8*j) 8)
def packTo (bits:List Bool)(i:Nat):List Nat:=(List.range i).map (fun j=>bval (seg bits (8*j) 8))++List.replicate (bits.length/8-i) 0
theorem packTo_len (bits:List Bool)(i:Nat)(h:i<=bits.length/8):(packTo bits i).length=bits.length/8:=by simp [packTo];omega
theorem packTo_all (bits:List Bool):packTo bits (bits.length/8)=pack bits:=by simp [packTo,pack]
theorem packTo_zero (bits:List Bool):packTo bits 0=List.replicate (bits.length/8) 0:=by simp [packTo]
theorem packTo_set (bits:List Bool)(i:Nat)(h:i<bits.length/8):(packTo bits i).set i (bval (seg bits (8*i) 8))=packTo bits (i+1):=by
 unfold packTo
 have hl:((List.range i).map (fun j=>bval (seg bits (8*j) 8))).length=i:=by simp
 rw [List.set_append_right _ _ (by omega),hl,Nat.sub_self,show bits.length/8-i=(bits.length/8-(i+1))+1 by omega,List.replicate_succ,List.set_cons_zero,List.range_succ,List.map_append,List.append_assoc]
 rfl
theorem packTo_set0 (bits:List Bool)(i:Nat)(h:i<bits.length/8):(packTo bits i).set i 0=packTo bits i:=by
 unfold packTo
 have hl:((List.range i).map (fun j=>bval (seg bits (8*j) 8))).length=i:=by simp
 rw [List.set_append_right _ _ (by omega),hl,Nat.sub_self,show bits.length/8-i=(bits.length/8-(i+1))+1 by omega,List.replicate_succ,List.set_cons_zero]
theorem seg_next (bits:List Bool)(s k:Nat)(h:s+k<bits.length):bval (seg bits s (k+1))=2*bval (seg bits s k)+(bits.getD (s+k) false).toNat:=by
 rw [seg_split,bval_append]
 have e:seg bits (s+k) 1=[bits.getD (s+k) false]:=by
  unfold seg
  rw [List.drop_eq_getElem_cons h,List.getD_eq_getElem?_getD,List.getElem?_eq_getElem h]
  rfl
 rw [e]
 simp only [List.length_singleton,Nat.pow_one]
 have:bval [bits.getD (s+k) false]=(bits.getD (s+k) false).toNat:=by simp [bval]
 omega
theorem pack_lt (bits:List Bool):AllLt 8 (pack bits):=by
 intro x hx
 unfold pack at hx
 obtain⟨j,_,rfl⟩:=List.mem_map.1 hx
 refine Nat.lt_of_lt_of_le (bval_lt _) (Nat.pow_le_pow_right (by decide) ?_)
 unfold seg
 simp
 omega
set_option maxHeartbeats 2000000 in
set_option maxRecDepth 8000 in
theorem bytes68 (w:World)(A:Option Addr)(c n:Nat)(bits:List Bool)(hn:bits.length=n)(hC:Kd.C Kd.bool w A n bits)(hl:n<=1000000) :
  Calls Tryz.prog 68 #[.slice A n c] w fun e w'=>e=.returned (.slice (some ⟨w.heap.size,0,none⟩) (n/8) (n/8))/\UBlk w' w.heap.size (pack bits)/\Below w.heap.size w w':=by
 obtain⟨N,hN⟩:∃ N,n/8=N:=⟨_,rfl⟩
 have hmk:=make_u8 N (by omega) w
 have hN8:(n:Int)/8=(N:Int):=by omega
 have h8:8*N<=n:=by omega
 obtain⟨w1,hw1⟩:∃ w1,w1=w.alloc (.cells (nums .u8 (ints (List.replicate N 0))).toArray 5):=⟨_,rfl⟩
 obtain⟨g,hg⟩:∃ g,g=w.heap.size:=⟨_,rfl⟩
 rw [<- hw1,<- hg] at hmk
 rw [hN,<- hg]
 have HB:=Aside0.mk (show UBlk w1 g (packTo bits 0) by rw [packTo_zero,hn,hN,hw1,hg];exact Blk.new _ _ _)
 have HBel:=Aside0.mk (show Below g w w1 by rw [hw1,hg];exact below_alloc (Below.refl _ _) _)
 have HC:=Aside0.mk (show ∀ W,Below g w W->ReadsOf Value.bool false W A n bits from fun W hb=>Kd.reads_of_C (Kd.C_below hC (by rw [hg] at hb;exact hb)))
 have HN:=Aside0.mk hn
 have HNN:=Aside0.mk hN
 have HGE:=Aside0.mk hg
 clear hw1 hg hC hn hN
 go_enter Tryz.func68,Tryz.ntmps68
 go_wp2_with fail
 clear hmk hN8
 go_loopw [12] (fun vi wr=>∃ i:Nat,vi=.int .i64 (i:Int)/\i<=N/\Aside0 (UBlk wr g (packTo bits i))/\Aside0 (Below g w wr)) (fun vi _=>(N-intOf vi).toNat)
 case atStart=>exact⟨0,rfl,Nat.zero_le _,HB,HBel⟩
 case round=>
  clear HB HBel
  obtain⟨i,rfl,hi,HB,HBel⟩:=hrel
  by_cases hin:i<N
  ·have HI:=Aside0.mk (show i<bits.length/8 by rw [HN.out,HNN.out];exact hin)
   go_wp2_with fail
   have HB0:=Aside0.mk (show UBlk wr g ((packTo bits i).set i (bval (seg bits (8*i) 0))) by
    have e:bval (seg bits (8*i) 0)=0:=by unfold seg;simp [bval]
    rw [e,packTo_set0 _ _ HI.out];exact HB.out)
   go_loopw [5] (fun vk wx=>∃ k:Nat,vk=.int .i64 (k:Int)/\k<=8/\Aside0 (UBlk wx g ((packTo bits i).set i (bval (seg bits (8*i) k))))/\Aside0 (Below g w wx)) (fun vk _=>(8-intOf vk).toNat)
   case atStart=>exact⟨0,rfl,Nat.zero_le _,HB0,HBel⟩
   case round=>
    clear HB0 HBel HB
    obtain⟨k,rfl,hk,HB,HBel⟩:=hrel
    by_cases hk8:k<8
    ·have hlen:(packTo bits i).length=N:=by rw [packTo_len _ _ (Nat.le_of_lt HI.out),HN.out,HNN.out]
     obtain⟨a,ha⟩:∃ a,bval (seg bits (8*i) k)=a:=⟨_,rfl⟩
     have ha8:a<128:=by
      rw [<- ha]
      refine Nat.lt_of_lt_of_le (bval_lt _) (show (2:Nat) ^ (seg bits (8*i) k).length<=2 ^ 7 from Nat.pow_le_pow_right (by decide) (by unfold seg;simp;omega))
     obtain⟨p,hp⟩:∃ p,8*i+k=p:=⟨_,rfl⟩
     have hpn:p<n:=by omega
     have hpi:8*(i:Int)+(k:Int)=(p:Int):=by omega
     obtain⟨b,hb⟩:∃ b,bits.getD p false=b:=⟨_,rfl⟩
     have HNX:=Aside0.mk (show bval (seg bits (8*i) (k+1))=2*a+b.toNat by rw [seg_next bits (8*i) k (by rw [HN.out];omega),ha,hp,hb])
     obtain⟨ad,e0,hcell⟩:=(HC.out _ HBel.out).2.2 (by omega)
     subst e0
     have r0:=hcell p hpn
     rw [hb] at r0
     have hw0:=((HC.out w (Below.refl _ _)).2.2 (by omega))
     have hadg:(ad.add p).block≠g:=by
      obtain⟨ad',e1,hc1⟩:=hw0
      injection e1 with e1
      subst e1
      have:=World.block_lt_of_cell? _ _ (hc1 p hpn)
      have h2:=HGE.out
      omega
     have r1:∀ u,(wr.setCell ⟨g,i,none⟩ u).cell? (ad.add p)=some (.bool b):=fun u=>by
      rw [World.cell?_setCell_other _ _ _ _ (fun e=>hadg (by rw [<- e]))]
      exact r0
     have hB1:=HB.out
     rw [ha] at hB1
     have y1:wr.cell? ⟨g,i,none⟩=some (.int .u8 (a:Int)):=by
      have:=UBlk.cell hB1 i (by rw [List.length_set,hlen];exact hin)
      rw [List.getD_eq_getElem?_getD,List.getElem?_set_self (by rw [hlen];exact hin)] at this
      exact this
     have y2:wr.frozen? ⟨g,i,none⟩=false:=Blk.frozen hB1 i
     have HSET:=Aside0.mk (show ∀ x y:Nat,UBlk ((wr.setCell ⟨g,i,none⟩ (.int .u8 (x:Int))).setCell ⟨g,i,none⟩ (.int .u8 (y:Int))) g ((packTo bits i).set i y) from fun x y=>by
      have:=(hB1.set i x).set i y
      simpa [List.set_set] using this)
     have HSET1:=Aside0.mk (show ∀ x:Nat,UBlk (wr.setCell ⟨g,i,none⟩ (.int .u8 (x:Int))) g ((packTo bits i).set i x) from fun x=>by
      have:=hB1.set i x
      simpa [List.set_set] using this)
     clear ha hp hb hcell hw0 hadg hB1 hlen r0
     cases b
     ·go_wp2
      go_roundw
      case rel=>exact⟨k+1,by go_num,by omega,⟨by rw [HNX.out];have:=HSET1.out (2*a);rw [show ((2*a:Nat):Int)=(a:Int)*2 by omega] at this;exact this⟩,⟨Below.setc HBel.out (Nat.le_refl _) _⟩⟩
      case measure=>simp [intOf]<;>omega
     ·go_wp2
      go_roundw
      case rel=>exact⟨k+1,by go_num,by omega,⟨by rw [HNX.out];have:=HSET.out (2*a) (2*a+1);rw [show ((2*a:Nat):Int)=(a:Int)*2 by omega,show ((2*a+1:Nat):Int)=(a:Int)*2+1 by omega] at this;exact this⟩,⟨Below.setc (Below.setc HBel.out (Nat.le_refl _) _) (Nat.le_refl _) _⟩⟩
      case measure=>simp [intOf]<;>omega
    ·have:k=8:=by omega
     subst this
     go_wp2
     go_roundw
     case rel=>exact⟨i+1,by go_num,by omega,⟨by rw [<- packTo_set _ _ HI.out];exact HB.out⟩,HBel⟩
     case measure=>simp [intOf]<;>omega
  ·have:N=i:=by omega
   subst this
   go_wp2
   go_ret
   exact⟨rfl,by rw [<- packTo_all,HN.out,HNN.out];exact HB.out,HBel.out⟩
def endBits (bits:List Bool)(room:Nat):List Bool :=
 bits++natBits 0 (min 4 (8*room-bits.length))++natBits 0 ((8-(bits++natBits 0 (min 4 (8*room-bits.length))).length%8)%8)
def padAt (i:Nat):Nat:=if i%2=0 then 236 else 17
def dataWords (bits:List Bool)(room:Nat):List Nat:=pack (endBits bits room)++(List.range (room-(pack (endBits bits room)).length)).map padAt
theorem endBits_len (bits:List Bool)(room:Nat)(h:bits.length<=8*room):(endBits bits room).length%8=0/\(endBits bits room).length<=8*room/\bits.length<=(endBits bits room).length:=by
 unfold endBits
 rw [List.length_append,natBits_len,List.length_append,natBits_len]
 omega
theorem pack_len (bits:List Bool):(pack bits).length=bits.length/8:=by simp [pack]
theorem dataWords_len (bits:List Bool)(room:Nat)(h:bits.length<=8*room):(dataWords bits room).length=room:=by
 have:=endBits_len bits room h
 unfold dataWords
 rw [List.length_append,List.length_map,List.length_range,pack_len]
 omega
theorem dataWords_lt (bits:List Bool)(room:Nat):AllLt 8 (dataWords bits room):=by
 intro x hx
 unfold dataWords at hx
 rcases List.mem_append.1 hx with h | h
 ·exact pack_lt _ x h
 ·obtain⟨i,_,rfl⟩:=List.mem_map.1 h
  unfold padAt
  split<;>decide
theorem bits8_val:∀ l:List Bool,l.length=8->byteBits (bval l)=l:=by
 intro l h
 have h1:bval l<2 ^ 8:=by have:=bval_lt l;rwa [h] at this
 have key:∀ a b c d e f g i:Bool,byteBits (bval [a,b,c,d,e,f,g,i])=[a,b,c,d,e,f,g,i]:=by decide
 match l,h with
 | [a,b,c,d,e,f,g,i],_=>exact key a b c d e f g i
theorem stream_append (a b:List Nat):streamBits (a++b)=streamBits a++streamBits b:=by simp [streamBits]
theorem stream_pack_to (bits:List Bool):∀ k,8*k<=bits.length->streamBits ((List.range k).map fun j=>bval (seg bits (8*j) 8))=bits.take (8*k):=by
 intro k
 induction k with
 | zero=>intro _;simp [streamBits]
 | succ k ih=>
  intro h
  rw [List.range_succ,List.map_append,stream_append,ih (by omega)]
  have e:streamBits ([k].map fun j=>bval (seg bits (8*j) 8))=seg bits (8*k) 8:=by
   simp only [List.map_cons,List.map_nil,streamBits,List.flatMap_cons,List.flatMap_nil,List.append_nil]
   exact bits8_val _ (seg_len bits (8*k) 8 (by omega))
  rw [e]
  unfold seg
  rw [show 8*(k+1)=8*k+8 by omega,List.take_add]
theorem stream_pack (bits:List Bool)(h:bits.length%8=0):streamBits (pack bits)=bits:=by
 unfold pack
 rw [stream_pack_to bits _ (by omega),List.take_of_length_le (by omega)]
theorem dataWords_says (bits:List Bool)(room:Nat)(h:bits.length<=8*room):∃ post,streamBits (dataWords bits room)=bits++post/\(post.length<4\/∃ q,post=natBits 0 4++q):=by
 have hl:=endBits_len bits room h
 refine⟨natBits 0 (min 4 (8*room-bits.length))++(natBits 0 ((8-(bits++natBits 0 (min 4 (8*room-bits.length))).length%8)%8)++streamBits ((List.range (room-(pack (endBits bits room)).length)).map padAt)),?_,?_⟩
 ·unfold dataWords
  rw [stream_append,stream_pack _ hl.1]
  generalize streamBits ((List.range (room-(pack (endBits bits room)).length)).map padAt)=T
  unfold endBits
  simp only [List.append_assoc]
 ·by_cases h4:bits.length+4<=8*room
  ·right
   rw [show min 4 (8*room-bits.length)=4 by omega]
   exact⟨_,rfl⟩
  ·left
   have e:(endBits bits room).length=8*room:=by
    have:=hl.1
    have:=hl.2.2
    have:=hl.2.1
    by_cases hb:bits.length=8*room
    ·omega
    ·unfold endBits
     rw [List.length_append,natBits_len,List.length_append,natBits_len]
     omega
   rw [List.length_append,List.length_append,streamBits_len,List.length_map,List.length_range,pack_len,e,natBits_len,natBits_len,List.length_append,natBits_len]
   omega
theorem BOwn.reads {w:World}{base:Nat}{v:Value}{xs:List Bool}(h:BOwn w base v xs)(hl:xs.length<=100000000):∃ A c,v=.slice A xs.length c/\xs.length<=c/\Kd.C Kd.bool w A xs.length xs:=by
 have hr:Kd.R Kd.bool 4 w base (fun _=>True) v xs:=Kd.R_of_own h (fun _ _=>trivial)
 exact Kd.R_reads hr
theorem own_of_blk2 {w:World}{q base:Nat}{xs:List Int}(h:Blk w q 5 (nums .u8 xs).toArray)(hb:base<=q)(hl:xs.length<=1000000):w.ownsRow base 5 1 (.slice (some ⟨q,0,none⟩) xs.length xs.length) xs.length (nums .u8 xs) :=
 ⟨by simp [nums],.inr ⟨q,xs.length,(nums .u8 xs).toArray,rfl,hb,h,Nat.le_refl _,by simp [maxLen];omega,by simp [nums],by rw [Nat.mul_one];exact List.take_of_length_le (by simp [nums])⟩⟩
theorem own_ublk {w:World}{g base:Nat}{xs:List Nat}(h:UBlk w g xs)(hb:base<=g)(hl:xs.length<=1000000):w.ownsRow base 5 1 (.slice (some ⟨g,0,none⟩) xs.length xs.length) xs.length (nums .u8 (ints xs)):=by
 have:=own_of_blk2 (w:=w) (q:=g) (base:=base) (xs:=ints xs) h hb (by rw [ints_len];exact hl)
 rwa [ints_len] at this
theorem pad0 (W:World):(Instr.index 124 (.agg #[.int .u8 236,.int .u8 17]) (.int .i64 0)).run Tryz.prog W=.ok (.int .u8 236) W:=by kernel_rfl
theorem pad1 (W:World):(Instr.index 124 (.agg #[.int .u8 236,.int .u8 17]) (.int .i64 1)).run Tryz.prog W=.ok (.int .u8 17) W:=by kernel_rfl
theorem ints_append (a b:List Nat):ints (a++b)=ints a++ints b:=by simp [ints]
theorem BOwn.shape {w:World}{base:Nat}{v:Value}{xs:List Bool}(h:BOwn w base v xs):∃ A c,v=.slice A xs.length c:=own_slice h
theorem qrAddI (w0 w:World)(base n k:Nat)(v:Value)(xs:List Bool)(a b:Int)(ha:a=(n:Int))(hb:b=(k:Int))(hO:BOwn w base v xs)(hB:Below base w0 w)(hbase:base<=w.heap.size)(hn:n<2147483648)(hk:k<=60)(hxl:xs.length<=10000000) :
  Calls Tryz.prog 66 #[v,.int .i64 a,.int .i64 b] w fun e w'=>∃ v',e=.returned v'/\BOwn w' base v' (xs++natBits n k)/\Below base w0 w'/\GrowR w w' v v':=by
 subst ha hb
 exact qrAdd w0 w base n k v xs hO hB hbase hn hk hxl
set_option maxHeartbeats 1000000 in
set_option maxRecDepth 8000 in
theorem words32 (w:World)(A:Option Addr)(c n v l:Nat)(segs:List F.S98)(hS:Kd.C F.k98 w A n segs)(hn:segs.length=n)(hv:1<=v/\v<=40)(hl:l<4)(hs:∀ s∈segs,SegOK s v)(hn2:n<=200)
  (hfit:(sgStream (segs.map toSg) v).length<=8*roomD v l) :
  Calls Tryz.prog 32 #[.slice A n c,.int .i64 (v:Int),.int .i64 (l:Int)] w fun e w'=>∃ v',e=.returned (.tuple #[v',.bool true])/\w'.ownsRow w.heap.size 5 1 v' (roomD v l) (nums .u8 (ints (dataWords (sgStream (segs.map toSg) v) (roomD v l))))/\Below w.heap.size w w':=by
 have k1:=stream67 w A c n v segs hS hn hv hs hn2
 have K22:=Aside0.mk (fun W=>words22 W v l hv hl)
 obtain⟨bits,hbits⟩:∃ bits,sgStream (segs.map toSg) v=bits:=⟨_,rfl⟩
 have L:=lay_at v l hv hl
 have hroom:roomD v l<=5000:=by
  have h1:=L.tot
  have h2:=(tot_row v hv).2
  unfold roomD
  omega
 obtain⟨room,hr⟩:∃ room,roomD v l=room:=⟨_,rfl⟩
 rw [hbits] at k1 hfit ⊢
 rw [hr] at K22 hfit hroom ⊢
 obtain⟨m,hm⟩:∃ m,bits.length=m:=⟨_,rfl⟩
 rw [hm] at hfit
 have HM:=Aside0.mk hm
 clear hS hn hs hbits L hr hv hl hm
 go_enter Tryz.func32,Tryz.ntmps32
 go_wp2_with fail
 refine k1.mono ?_
 rintro e w1 ⟨v1,rfl,hO1,hB1⟩
 obtain⟨A1,c1,hv1⟩:=hO1.shape
 rw [HM.out] at hv1
 subst hv1
 have HO1:=Aside0.mk hO1
 have HB1:=Aside0.mk hB1
 clear hO1 hB1 k1
 go_wp2_with fail
 refine (K22.out w1).mono ?_
 rintro e w2 ⟨rfl,hB2⟩
 have HO2:=Aside0.mk (HO1.out.under hB2)
 have HB2:=Aside0.mk (HB1.out.trans (hB2.mono HB1.out.size))
 clear hB2
 obtain⟨r4,hr4⟩:∃ r4:Nat,min 4 (8*room-m)=r4:=⟨_,rfl⟩
 have hr44:r4<=4:=by omega
 obtain⟨bits2,hb2⟩:∃ bits2,bits++natBits 0 r4=bits2:=⟨_,rfl⟩
 have HE2:=Aside0.mk (show bits++natBits 0 (min 4 (8*room-bits.length))=bits2 by rw [HM.out,hr4,hb2])
 obtain⟨m2,hm2⟩:∃ m2,bits2.length=m2:=⟨_,rfl⟩
 have hm2l:m2<=8*room:=by rw [<- hm2,<- hb2,List.length_append,natBits_len,HM.out];omega
 have HM2:=Aside0.mk hm2
 have hfi:(m:Int)<=8*(room:Int):=by omega
 have hcs:(r4=4/\m+4<=8*room)\/(r4<=3/\(8*(room:Int)-(m:Int))=(r4:Int)):=by omega
 obtain⟨r5,hr5⟩:∃ r5:Nat,(8-m2%8)%8=r5:=⟨_,rfl⟩
 have hr58:r5<=7:=by omega
 obtain⟨bits3,hb3⟩:∃ bits3,bits2++natBits 0 r5=bits3:=⟨_,rfl⟩
 have HE3:=Aside0.mk (show endBits bits room=bits3 by unfold endBits;rw [HE2.out,HM2.out,hr5,hb3])
 obtain⟨m3,hm3⟩:∃ m3,bits3.length=m3:=⟨_,rfl⟩
 have HM3:=Aside0.mk hm3
 have h5i:-((m2:Int)%8)%8=(r5:Int):=by omega
 have hm3l:m3<=8*room:=by have:=endBits_len bits room (by rw [HM.out];exact hfit);rw [HE3.out,hm3] at this;omega
 obtain⟨N3,hN3⟩:∃ N3,m3/8=N3:=⟨_,rfl⟩
 have hN3r:N3<=room:=by omega
 have HN3:=Aside0.mk hN3
 have HB3E:=Aside0.mk hb3
 have HPL:=Aside0.mk (show (pack bits3).length=N3 by rw [pack_len,hm3,hN3])
 have HDW:=Aside0.mk (show dataWords bits room=pack bits3++(List.range (room-N3)).map padAt by unfold dataWords;rw [HE3.out,HPL.out])
 have H5I:=Aside0.mk h5i
 clear hr5 hb3 hm3 hN3 h5i
 clear hr4 hm2
 rcases hcs with⟨rfl,h4⟩ | ⟨h4,h5⟩
 ·have k2:=qrAddI w w2 w.heap.size 0 4 (.slice A1 m c1) bits 0 4 rfl rfl HO2.out HB2.out HB2.out.size (by decide) (by omega) (by rw [HM.out];omega)
  rw [hb2] at k2
  clear hb2
  have h5i:=H5I.out
  go_wp2_with fail
  refine k2.mono ?_
  rintro e w3 ⟨v3,rfl,hO3,hB3,hG3⟩
  obtain⟨A3,c3,hv3⟩:=hO3.shape
  rw [HM2.out] at hv3
  subst hv3
  have HO3:=Aside0.mk hO3
  have HB3:=Aside0.mk hB3
  clear hO3 hB3 hG3
  clear k2
  have k3:=qrAddI w w3 w.heap.size 0 r5 (.slice A3 m2 c3) bits2 0 (r5:Int) rfl rfl HO3.out HB3.out HB3.out.size (by decide) (by omega) (by rw [HM2.out];omega)
  rw [HB3E.out] at k3
  go_wp2_with fail
  refine k3.mono ?_
  rintro e w4 ⟨v4,rfl,hO4,hB4,hG4⟩
  obtain⟨A4,c4,hv4⟩:=hO4.shape
  rw [HM3.out] at hv4
  subst hv4
  have HO4:=Aside0.mk hO4
  have HB4:=Aside0.mk hB4
  clear hO4 hB4 hG4
  clear k3 h5i
  obtain⟨A5,c5,hv5,hc5,hC5⟩:=HO4.out.reads (by rw [HM3.out];omega)
  rw [HM3.out] at hv5 hc5 hC5
  injection hv5 with e1 e2 e3
  subst e1 e3
  have k5:=bytes68 w4 A4 c4 m3 bits3 HM3.out hC5 (by omega)
  rw [HN3.out] at k5
  clear hC5 hc5 e2
  go_wp2_with fail
  refine k5.mono ?_
  rintro e w5 ⟨rfl,hU5,hB5⟩
  have HU5:=Aside0.mk hU5
  have HB5:=Aside0.mk (HB4.out.trans (hB5.mono HB4.out.size))
  clear hU5 hB5
  clear k5
  go_wp2_with fail
  have HO5:=Aside0.mk (show w5.ownsRow w.heap.size 5 1 (.slice (some ⟨w4.heap.size,0,none⟩) N3 N3) N3 (nums .u8 (ints (pack bits3++(List.range 0).map padAt))) by
   have h:=own_ublk (base:=w.heap.size) HU5.out HB4.out.size (by rw [HPL.out];omega)
   rw [HPL.out] at h
   simpa using h)
  obtain⟨g5,hg5⟩:∃ g5,g5=w4.heap.size:=⟨_,rfl⟩
  rw [<- hg5] at HO5 ⊢
  clear hg5
  go_loopw [11,12] (fun vo vi wr=>∃ (i k c':Nat) (A':Option Addr),vi=.int .i64 (i:Int)/\vo=.slice A' k c'/\k=N3+i/\k<=room/\Aside0 (wr.ownsRow w.heap.size 5 1 (.slice A' k c') k (nums .u8 (ints (pack bits3++(List.range i).map padAt))))/\Aside0 (Below w.heap.size w wr)) (fun vo _ _=>(room-sliceLen vo).toNat)
  case atStart=>exact⟨0,N3,N3,_,rfl,rfl,by omega,hN3r,HO5,HB5⟩
  case round=>
   clear HO5 HB5 HU5
   obtain⟨i,k,c',A',rfl,rfl,hk,hkr,HO,HB⟩:=hrel
   have HKI:=Aside0.mk hk
   clear hk
   by_cases hlt:k<room
   ·obtain⟨j,hj⟩:∃ j,i%2=j:=⟨_,rfl⟩
    have hji:(i:Int)%2=(j:Int):=by omega
    obtain⟨x,hx⟩:∃ x,padAt i=x:=⟨_,rfl⟩
    have hidx:∀ W,(Instr.index 124 (.agg #[.int .u8 236,.int .u8 17]) (.int .i64 (j:Int))).run Tryz.prog W=.ok (.int .u8 (x:Int)) W:=by
     intro W
     rw [<- hx]
     unfold padAt
     have:j=0\/j=1:=by omega
     rcases this with rfl | rfl
     ·rw [if_pos hj];exact pad0 W
     ·rw [if_neg (by omega)];exact pad1 W
    have HX:=Aside0.mk hx
    have hi5:i<=5000:=by have:=HKI.out;omega
    clear hj hx
    have HLk:=Aside0.mk (show (ints (pack bits3++(List.range i).map padAt)).length=k by rw [ints_len,List.length_append,List.length_map,List.length_range,HPL.out,HKI.out])
    go_wp2_with (first | ((with_reducible refine gate_builtin (b:=.append) (xs:=#[.tmp 54,.tmp 59]) rfl ?_);at_builtin;refine print_append_num (w0:=w) w.heap.size rfl (.tmp 54) (.tmp 59) 26 5 .u8 1 rfl Tryz.underlying26 F.info5 (by decide) (.slice A' k c') (ints (pack bits3++(List.range i).map padAt)) (x:Int) rfl rfl ?aO HB.out HB.out.size ?aL ?_;(case aO=>(rw [HLk.out];exact HO.out));(case aL=>(rw [HLk.out];omega));intro v6 w6 ho6 hb6 hg6 hat6;rw [List.length_append,HLk.out] at ho6;obtain⟨A6,c6,hv6⟩:=own_slice ho6;subst hv6;have HO6:=Aside0.mk ho6;have HB6:=Aside0.mk hb6;clear ho6 hb6 hg6 hat6))
    clear hidx hji
    go_roundw
    case rel=>exact⟨i+1,k+1,c6,A6,by go_num,rfl,by have:=HKI.out;omega,by omega,⟨by have:=HO6.out;rw [List.range_succ,List.map_append,<- List.append_assoc,ints_append];simpa [ints,HX.out] using this⟩,HB6⟩
    case measure=>simp [sliceLen]<;>omega
   ·have:k=room:=by omega
    subst this
    go_wp2
    go_ret2
    exact⟨_,rfl,by rw [HDW.out,show k-N3=i by have:=HKI.out;omega];exact HO.out,HB.out⟩
 ·have k2:=qrAddI w w2 w.heap.size 0 r4 (.slice A1 m c1) bits 0 (r4:Int) rfl rfl HO2.out HB2.out HB2.out.size (by decide) (by omega) (by rw [HM.out];omega)
  rw [hb2] at k2
  clear hb2
  have h5i:=H5I.out
  go_wp2_with fail
  refine k2.mono ?_
  rintro e w3 ⟨v3,rfl,hO3,hB3,hG3⟩
  obtain⟨A3,c3,hv3⟩:=hO3.shape
  rw [HM2.out] at hv3
  subst hv3
  have HO3:=Aside0.mk hO3
  have HB3:=Aside0.mk hB3
  clear hO3 hB3 hG3
  clear k2
  have k3:=qrAddI w w3 w.heap.size 0 r5 (.slice A3 m2 c3) bits2 0 (r5:Int) rfl rfl HO3.out HB3.out HB3.out.size (by decide) (by omega) (by rw [HM2.out];omega)
  rw [HB3E.out] at k3
  go_wp2_with fail
  refine k3.mono ?_
  rintro e w4 ⟨v4,rfl,hO4,hB4,hG4⟩
  obtain⟨A4,c4,hv4⟩:=hO4.shape
  rw [HM3.out] at hv4
  subst hv4
  have HO4:=Aside0.mk hO4
  have HB4:=Aside0.mk hB4
  clear hO4 hB4 hG4
  clear k3 h5i
  obtain⟨A5,c5,hv5,hc5,hC5⟩:=HO4.out.reads (by rw [HM3.out];omega)
  rw [HM3.out] at hv5 hc5 hC5
  injection hv5 with e1 e2 e3
  subst e1 e3
  have k5:=bytes68 w4 A4 c4 m3 bits3 HM3.out hC5 (by omega)
  rw [HN3.out] at k5
  clear hC5 hc5 e2
  go_wp2_with fail
  refine k5.mono ?_
  rintro e w5 ⟨rfl,hU5,hB5⟩
  have HU5:=Aside0.mk hU5
  have HB5:=Aside0.mk (HB4.out.trans (hB5.mono HB4.out.size))
  clear hU5 hB5
  clear k5
  go_wp2_with fail
  have HO5:=Aside0.mk (show w5.ownsRow w.heap.size 5 1 (.slice (some ⟨w4.heap.size,0,none⟩) N3 N3) N3 (nums .u8 (ints (pack bits3++(List.range 0).map padAt))) by
   have h:=own_ublk (base:=w.heap.size) HU5.out HB4.out.size (by rw [HPL.out];omega)
   rw [HPL.out] at h
   simpa using h)
  obtain⟨g5,hg5⟩:∃ g5,g5=w4.heap.size:=⟨_,rfl⟩
  rw [<- hg5] at HO5 ⊢
  clear hg5
  go_loopw [11,12] (fun vo vi wr=>∃ (i k c':Nat) (A':Option Addr),vi=.int .i64 (i:Int)/\vo=.slice A' k c'/\k=N3+i/\k<=room/\Aside0 (wr.ownsRow w.heap.size 5 1 (.slice A' k c') k (nums .u8 (ints (pack bits3++(List.range i).map padAt))))/\Aside0 (Below w.heap.size w wr)) (fun vo _ _=>(room-sliceLen vo).toNat)
  case atStart=>exact⟨0,N3,N3,_,rfl,rfl,by omega,hN3r,HO5,HB5⟩
  case round=>
   clear HO5 HB5 HU5
   obtain⟨i,k,c',A',rfl,rfl,hk,hkr,HO,HB⟩:=hrel
   have HKI:=Aside0.mk hk
   clear hk
   by_cases hlt:k<room
   ·obtain⟨j,hj⟩:∃ j,i%2=j:=⟨_,rfl⟩
    have hji:(i:Int)%2=(j:Int):=by omega
    obtain⟨x,hx⟩:∃ x,padAt i=x:=⟨_,rfl⟩
    have hidx:∀ W,(Instr.index 124 (.agg #[.int .u8 236,.int .u8 17]) (.int .i64 (j:Int))).run Tryz.prog W=.ok (.int .u8 (x:Int)) W:=by
     intro W
     rw [<- hx]
     unfold padAt
     have:j=0\/j=1:=by omega
     rcases this with rfl | rfl
     ·rw [if_pos hj];exact pad0 W
     ·rw [if_neg (by omega)];exact pad1 W
    have HX:=Aside0.mk hx
    have hi5:i<=5000:=by have:=HKI.out;omega
    clear hj hx
    have HLk:=Aside0.mk (show (ints (pack bits3++(List.range i).map padAt)).length=k by rw [ints_len,List.length_append,List.length_map,List.length_range,HPL.out,HKI.out])
    go_wp2_with (first | ((with_reducible refine gate_builtin (b:=.append) (xs:=#[.tmp 54,.tmp 59]) rfl ?_);at_builtin;refine print_append_num (w0:=w) w.heap.size rfl (.tmp 54) (.tmp 59) 26 5 .u8 1 rfl Tryz.underlying26 F.info5 (by decide) (.slice A' k c') (ints (pack bits3++(List.range i).map padAt)) (x:Int) rfl rfl ?aO HB.out HB.out.size ?aL ?_;(case aO=>(rw [HLk.out];exact HO.out));(case aL=>(rw [HLk.out];omega));intro v6 w6 ho6 hb6 hg6 hat6;rw [List.length_append,HLk.out] at ho6;obtain⟨A6,c6,hv6⟩:=own_slice ho6;subst hv6;have HO6:=Aside0.mk ho6;have HB6:=Aside0.mk hb6;clear ho6 hb6 hg6 hat6))
    clear hidx hji
    go_roundw
    case rel=>exact⟨i+1,k+1,c6,A6,by go_num,rfl,by have:=HKI.out;omega,by omega,⟨by have:=HO6.out;rw [List.range_succ,List.map_append,<- List.append_assoc,ints_append];simpa [ints,HX.out] using this⟩,HB6⟩
    case measure=>simp [sliceLen]<;>omega
   ·have:k=room:=by omega
    subst this
    go_wp2
    go_ret2
    exact⟨_,rfl,by rw [HDW.out,show k-N3=i by have:=HKI.out;omega];exact HO.out,HB.out⟩
theorem gm'_half (m p:Nat)(F:Fld m p):∀ (k a c:Nat),gm' m p (k+1) a c=gl m p (gm' m p k a (c/2)) ^^^ (if c.testBit 0 then a else 0):=by
 intro k
 induction k with
 | zero=>intro a c;simp [gm',gl_zero,glN]
 | succ k ih=>
  intro a c
  rw [gm',ih a c]
  conv=>rhs;rw [gm',gl_add]
  have e:(c/2).testBit k=c.testBit (k+1):=by rw [Nat.testBit_div_two]
  rw [e]
  have e2:gl m p (if c.testBit (k+1) then glN m p k a else 0)=if c.testBit (k+1) then glN m p (k+1) a else 0:=by
   split
   ·rfl
   ·exact gl_zero
  rw [e2]
  rw [Nat.xor_assoc,Nat.xor_assoc,Nat.xor_comm (if c.testBit 0 then a else 0)]
def hm (a b k:Nat):Nat:=gm' 8 285 k a (b/2 ^ (8-k))
theorem hm_zero (a b:Nat):hm a b 0=0:=rfl
theorem hm_all (a b:Nat):hm a b 8=gm 8 285 a b:=by unfold hm gm;rw [Nat.sub_self,Nat.pow_zero,Nat.div_one]
theorem hm_next (a b k:Nat)(h:k<8):hm a b (k+1)=gl 8 285 (hm a b k) ^^^ (if b.testBit (7-k) then a else 0):=by
 unfold hm
 rw [gm'_half 8 285 fQR,Nat.div_div_eq_div_mul,show 2 ^ (8-(k+1))*2=2 ^ (8-k) by rw [<- Nat.pow_succ];congr 1;omega,Nat.testBit_div_two_pow,Nat.zero_add,show 8-(k+1)=7-k by omega]
theorem hm_lt (a b k:Nat)(ha:a<256):hm a b k<256:=gm'_lt fQR k a _ ha
theorem gl_byte (x:Nat)(h:x<256):gl 8 285 x=if 255<2*x then (2*x) ^^^ 285 else 2*x:=by
 have key:∀ y:Fin 256,gl 8 285 y.val=if 255<2*y.val then (2*y.val) ^^^ 285 else 2*y.val:=by decide +kernel
 exact key ⟨x,h⟩
theorem times120 (w:World)(a b:Nat)(ha:a<256)(hb:b<256):Calls Tryz.prog 120 #[.int .i64 (a:Int),.int .i64 (b:Int)] w fun e w'=>e=.returned (.int .i64 ((gm 8 285 a b:Nat):Int))/\w=w':=by
 obtain⟨R,hR⟩:∃ R,gm 8 285 a b=R:=⟨_,rfl⟩
 rw [hR]
 have HR:=Aside0.mk (show hm a b 8=R by rw [hm_all,hR])
 have HA:=Aside0.mk ha
 have HB:=Aside0.mk hb
 clear hR
 go_enter Tryz.func120,Tryz.ntmps120
 go_wp2
 go_loop [5,6] (fun vo vi=>∃ k x:Nat,k<=8/\vi=.int .i64 (7-(k:Int))/\vo=.int .i64 (x:Int)/\Aside0 (hm a b k=x)) (fun _ vi=>(intOf vi+1).toNat)
 case atStart=>exact⟨0,0,by omega,by go_num,rfl,⟨hm_zero a b⟩⟩
 case round=>
  obtain⟨k,x,hk,rfl,rfl,HX⟩:=hrel
  by_cases hk8:k<8
  ·have hx:x<256:=by rw [<- HX.out];exact hm_lt a b k HA.out
   obtain⟨j,hj⟩:∃ j:Nat,7-k=j:=⟨_,rfl⟩
   have hj7:j<=7:=by omega
   have hji:(7:Int)-(k:Int)=(j:Int):=by omega
   have hn:=hm_next a b k hk8
   rw [HX.out,gl_byte x hx,hj] at hn
   obtain⟨t,ht⟩:∃ t,b.testBit j=t:=⟨_,rfl⟩
   have hbit:=bit_div b j (by omega)
   rw [ht] at hn hbit
   rw [hji]
   have HJ:=Aside0.mk hji
   clear hj hji ht
   by_cases hx2:255<2*x
   ·rw [if_pos hx2] at hn
    have e1:=i64_xor_nat (2*x) 285 (by omega) (by omega)
    obtain⟨y,hy⟩:∃ y,(2*x) ^^^ 285=y:=⟨_,rfl⟩
    rw [hy] at e1 hn
    have e1':Go.bits .xor .i64 ((x:Int)*2) 285=(y:Int):=by rw [<- e1];congr 1;omega
    have hy9:y<65536:=by rw [<- hy];exact Nat.xor_lt_two_pow (n:=16) (by omega) (by omega)
    cases t
    ·rw [if_neg (by decide),Nat.xor_zero] at hn
     have HN:=Aside0.mk hn
     clear hn e1 hy
     go_wp2
     clear hbit e1'
     go_round
     case rel=>exact⟨k+1,y,by omega,by have:=HJ.out;go_num,rfl,HN⟩
     case measure=>simp [intOf]<;>omega
    ·rw [if_pos rfl] at hn
     have e2:=i64_xor_nat y a (by omega) (by omega)
     obtain⟨z,hz⟩:∃ z,y ^^^ a=z:=⟨_,rfl⟩
     rw [hz] at e2 hn
     have HN:=Aside0.mk hn
     clear hn e1 hy hz
     go_wp2
     clear hbit e1' e2
     go_round
     case rel=>exact⟨k+1,z,by omega,by have:=HJ.out;go_num,rfl,HN⟩
     case measure=>simp [intOf]<;>omega
   ·rw [if_neg hx2] at hn
    obtain⟨y,hy⟩:∃ y,2*x=y:=⟨_,rfl⟩
    rw [hy] at hn
    have e1':(x:Int)*2=(y:Int):=by omega
    have hy2:y<=255:=by omega
    cases t
    ·rw [if_neg (by decide),Nat.xor_zero] at hn
     have HN:=Aside0.mk hn
     clear hn hy
     go_wp2
     clear hbit e1'
     go_round
     case rel=>exact⟨k+1,y,by omega,by have:=HJ.out;go_num,rfl,HN⟩
     case measure=>simp [intOf]<;>omega
    ·rw [if_pos rfl] at hn
     have e2:=i64_xor_nat y a (by omega) (by omega)
     obtain⟨z,hz⟩:∃ z,y ^^^ a=z:=⟨_,rfl⟩
     rw [hz] at e2 hn
     have HN:=Aside0.mk hn
     clear hn hy hz
     go_wp2
     clear hbit e1' e2
     go_round
     case rel=>exact⟨k+1,z,by omega,by have:=HJ.out;go_num,rfl,HN⟩
     case measure=>simp [intOf]<;>omega
  ·have:k=8:=by omega
   subst this
   go_wp2
   go_ret
   exact⟨by rw [<- HR.out,HX.out];rfl,rfl⟩
theorem make_i64 (n:Nat)(h:n<=1000000)(w:World):(Instr.makeSlice 93 (.int .i64 (n:Int)) (.int .i64 (n:Int))).run Tryz.prog w=.ok (.slice (some ⟨w.heap.size,0,none⟩) n n) (w.alloc (.cells (nums .i64 (ints (List.replicate n 0))).toArray 3)):=by
 obtain⟨i,hi,hz,hs,hb⟩:=info_parts info3i
 have:=run_make_rowN (P:=Tryz.prog) 93 3 i (.int .i64 0) Tryz.underlying93 hi hz .i64 .i64 n n (Nat.le_refl _) (by rw [hb];omega) (by omega) w
 have e:madeCells (Value.int .i64 0).cells (n*1)=(nums .i64 (ints (List.replicate n 0))).toArray:=by
  apply Array.toList_inj.1
  rw [Nat.mul_one]
  exact (toList_madeCells_one _ _).trans (by simp [nums,ints])
 rw [this,hs,e]
theorem gstep_get (s:List Nat)(root k:Nat)(hk:k<s.length):(gstep 8 285 s root).getD k 0=gm 8 285 (s.getD k 0) root ^^^ s.getD (k+1) 0:=by
 have hl:(gstep 8 285 s root).length=s.length:=gstep_len s root (by omega)
 rw [List.getD_eq_getElem?_getD,List.getElem?_eq_getElem (by omega),Option.getD_some]
 unfold gstep
 rw [List.getElem_zipWith,List.getElem_map]
 have e1:s.getD k 0=s[k]:=by rw [List.getD_eq_getElem?_getD,List.getElem?_eq_getElem hk];rfl
 rw [e1]
 congr 1
 by_cases h:k+1<s.length
 ·rw [List.getElem_append_left (by rw [List.length_tail];omega),List.getElem_tail,List.getD_eq_getElem?_getD,List.getElem?_eq_getElem h]
  rfl
 ·rw [List.getElem_append_right (by rw [List.length_tail];omega),List.getD_eq_getElem?_getD,List.getElem?_eq_none (by omega)]
  simp
def mid (u s:List Nat)(k:Nat):List Nat:=u.take k++s.drop k
theorem mid_zero (u s:List Nat):mid u s 0=s:=by simp [mid]
theorem mid_all (u s:List Nat)(h:u.length=s.length):mid u s s.length=u:=by unfold mid;rw [List.drop_length,List.append_nil,List.take_of_length_le (by omega)]
theorem mid_len (u s:List Nat)(k:Nat)(h:u.length=s.length)(hk:k<=s.length):(mid u s k).length=s.length:=by simp [mid];omega
theorem mid_get (u s:List Nat)(k j:Nat)(h:u.length=s.length)(hk:k<=s.length)(hj:k<=j):(mid u s k).getD j 0=s.getD j 0:=by
 unfold mid
 rw [List.getD_eq_getElem?_getD,List.getD_eq_getElem?_getD,List.getElem?_append_right (by simp;omega),List.getElem?_drop]
 congr 2
 simp;omega
theorem mid_set (u s:List Nat)(k:Nat)(h:u.length=s.length)(hk:k<s.length):(mid u s k).set k (u.getD k 0)=mid u s (k+1):=by
 unfold mid
 have hl:(u.take k).length=k:=by simp;omega
 rw [List.set_append_right _ _ (by omega),hl,Nat.sub_self,List.drop_eq_getElem_cons hk,List.set_cons_zero,List.take_succ_eq_append_getElem (by omega),List.append_assoc]
 congr 1
 rw [List.getD_eq_getElem?_getD,List.getElem?_eq_getElem (by omega)]
 rfl
theorem gens_snoc:∀ (rs s:List Nat) (r:Nat),gens 8 285 s (rs++[r])=gstep 8 285 (gens 8 285 s rs) r:=by
 intro rs
 induction rs with
 | nil=>intro s r;rfl
 | cons a l ih=>intro s r;exact ih _ r
def gen0 (ec:Nat):List Nat:=List.replicate (ec-1) 0++[1]
def genTo (ec i:Nat):List Nat:=gens 8 285 (gen0 ec) ((List.range i).map (gx 8 285))
theorem genTo_succ (ec i:Nat):genTo ec (i+1)=gstep 8 285 (genTo ec i) (gx 8 285 i):=by
 unfold genTo
 rw [List.range_succ,List.map_append,List.map_cons,List.map_nil,gens_snoc]
theorem gen0_len (ec:Nat)(h:1<=ec):(gen0 ec).length=ec:=by simp [gen0];omega
theorem genTo_len (ec i:Nat)(h:1<=ec):(genTo ec i).length=ec:=by
 unfold genTo
 rw [gens_len _ _ (by rw [gen0_len ec h];omega),gen0_len ec h]
theorem gen0_lt (ec:Nat):AllLt 8 (gen0 ec):=by
 intro x hx
 rcases List.mem_append.1 hx with h | h
 ·rw [List.eq_of_mem_replicate h];decide
 ·rw [List.mem_singleton.1 h];decide
theorem genTo_lt (ec i:Nat):AllLt 8 (genTo ec i):=gens_lt fQR _ _ (gen0_lt ec)
theorem gen_root (ec i:Nat)(h:1<=ec)(hi:i<ec):pev 8 285 (gx 8 285 i) (genTo ec ec)=gpow 8 285 (gx 8 285 i) ec:=by
 obtain⟨n,rfl⟩:∃ n,ec=n+1:=⟨ec-1,by omega⟩
 have hlt:AllLt 8 ((List.range n).map (gx 8 285)):=by
  intro x hx
  obtain⟨j,_,rfl⟩:=List.mem_map.1 hx
  exact gx_lt fQR j
 have hm:gx 8 285 i∈(List.range n).map (gx 8 285)\/gx 8 285 i=gx 8 285 n:=by
  rcases Nat.lt_or_ge i n with h | h
  ·exact .inl (List.mem_map.2 ⟨i,List.mem_range.2 h,rfl⟩)
  ·exact .inr (by rw [show i=n by omega])
 have:=(gens_root fQR ((List.range n).map (gx 8 285)) (gx 8 285 n) (gx 8 285 i) hlt (gx_lt fQR n) (gx_lt fQR i) hm).1
 unfold genTo gen0
 rw [List.range_succ,List.map_append,List.map_cons,List.map_nil]
 simpa using this
set_option maxHeartbeats 2000000 in
set_option maxRecDepth 8000 in
theorem gen119 (w:World)(ec:Nat)(h:1<=ec)(h2:ec<=1000) :
  Calls Tryz.prog 119 #[.int .i64 (ec:Int)] w fun e w'=>e=.returned (.slice (some ⟨w.heap.size,0,none⟩) ec ec)/\IBlk w' w.heap.size (genTo ec ec)/\Below w.heap.size w w':=by
 have hmk:=make_i64 ec (by omega) w
 obtain⟨g,hg⟩:∃ g,g=w.heap.size:=⟨_,rfl⟩
 obtain⟨w1,hw1⟩:∃ w1,w1=w.alloc (.cells (nums .i64 (ints (List.replicate ec 0))).toArray 3):=⟨_,rfl⟩
 rw [<- hw1,<- hg] at hmk
 rw [<- hg]
 have h0:IBlk w1 g (List.replicate ec 0):=by rw [hw1,hg];exact Blk.new _ _ _
 obtain⟨e1,he1⟩:∃ e1,ec-1=e1:=⟨_,rfl⟩
 have hei:(ec:Int)-1=(e1:Int):=by omega
 have hel:e1<ec:=by omega
 have y1:w1.cell? ⟨g,e1,none⟩=some (.int .i64 0):=by
  have:=h0.cell e1 (by simp;omega)
  rw [List.getD_eq_getElem?_getD,List.getElem?_eq_getElem (by simp;omega)] at this
  simpa using this
 have y2:w1.frozen? ⟨g,e1,none⟩=false:=Blk.frozen h0 e1
 have HB:=Aside0.mk (show IBlk (w1.setCell ⟨g,e1,none⟩ (.int .i64 1)) g (genTo ec 0) by
  have:=h0.set e1 1
  have e:(List.replicate ec 0).set e1 1=genTo ec 0:=by
   unfold genTo gen0
   simp only [List.range_zero,List.map_nil,gens]
   rw [he1,show ec=e1+1 by omega,List.replicate_succ',List.set_append_right _ _ (by simp),List.length_replicate,Nat.sub_self]
   rfl
  rw [e] at this
  exact this)
 have HBel:=Aside0.mk (show Below g w (w1.setCell ⟨g,e1,none⟩ (.int .i64 1)) by
  rw [hw1,hg]
  exact Below.setc (below_alloc (Below.refl _ _) _) (Nat.le_refl _) _)
 clear hw1 hg he1 h0
 go_enter Tryz.func119,Tryz.ntmps119
 go_wp2_with fail
 clear hmk y1 y2 hei
 go_loopw [4,5] (fun vr vi wr=>∃ i:Nat,vi=.int .i64 (i:Int)/\vr=.int .i64 ((gx 8 285 i:Nat):Int)/\i<=ec/\Aside0 (IBlk wr g (genTo ec i))/\Aside0 (Below g w wr)) (fun _ vi _=>(ec-intOf vi).toNat)
 case atStart=>exact⟨0,rfl,rfl,Nat.zero_le _,HB,HBel⟩
 case round=>
  clear HB HBel
  obtain⟨i,rfl,rfl,hi,HB,HBel⟩:=hrel
  by_cases hie:i<ec
  ·obtain⟨r,hr⟩:∃ r,gx 8 285 i=r:=⟨_,rfl⟩
   have hr8:r<256:=by rw [<- hr];exact gx_lt fQR i
   obtain⟨s,hs⟩:∃ s,genTo ec i=s:=⟨_,rfl⟩
   have hsl:s.length=ec:=by rw [<- hs];exact genTo_len ec i h
   have hs8:AllLt 8 s:=by rw [<- hs];exact genTo_lt ec i
   obtain⟨u,hu⟩:∃ u,gstep 8 285 s r=u:=⟨_,rfl⟩
   have hul:u.length=s.length:=by rw [<- hu];exact gstep_len s r (by omega)
   have HNX:=Aside0.mk (show genTo ec (i+1)=u by rw [genTo_succ,hs,hr,hu])
   have HRX:=Aside0.mk (show gm 8 285 r 2=gx 8 285 (i+1) by rw [<- hr,show (2:Nat)=gx 8 285 1 from rfl,gx_add fQR])
   have HG:=Aside0.mk (show ∀ k,k<s.length->u.getD k 0=gm 8 285 (s.getD k 0) r ^^^ s.getD (k+1) 0 from fun k hk=>by rw [<- hu];exact gstep_get s r k hk)
   have HSL:=Aside0.mk hsl
   have HS8:=Aside0.mk hs8
   have HUL:=Aside0.mk hul
   rw [hr]
   rw [hs] at HB
   have HB0:=Aside0.mk (show IBlk wr g (mid u s 0) by rw [mid_zero];exact HB.out)
   clear hr hs hsl hs8 hu hul
   go_wp2_with fail
   go_loopw [20] (fun vk wx=>∃ k:Nat,vk=.int .i64 (k:Int)/\k<=ec/\Aside0 (IBlk wx g (mid u s k))/\Aside0 (Below g w wx)) (fun vk _=>(ec-intOf vk).toNat)
   case atStart=>exact⟨0,rfl,Nat.zero_le _,HB0,HBel⟩
   case round=>
    clear HB0 HBel HB
    obtain⟨k,rfl,hk,HB,HBel⟩:=hrel
    by_cases hke:k<ec
    ·have hml:=mid_len u s k HUL.out (by rw [HSL.out];exact hk)
     rw [HSL.out] at hml
     obtain⟨a,ha⟩:∃ a,s.getD k 0=a:=⟨_,rfl⟩
     have ha8:a<256:=by rw [<- ha];exact getD_lt HS8.out k
     obtain⟨b,hb⟩:∃ b,s.getD (k+1) 0=b:=⟨_,rfl⟩
     have hb8:b<256:=by rw [<- hb];exact getD_lt HS8.out (k+1)
     have r0:=HB.out.cell k (by rw [hml];exact hke)
     rw [mid_get u s k k HUL.out (by rw [HSL.out];exact hk) (Nat.le_refl _),ha] at r0
     have y2:wr.frozen? ⟨g,k,none⟩=false:=Blk.frozen HB.out k
     have kt:=times120 wr a r ha8 hr8
     obtain⟨t,ht⟩:∃ t,gm 8 285 a r=t:=⟨_,rfl⟩
     have ht8:t<256:=by rw [<- ht];exact gm_lt fQR a r ha8
     have hg:=HG.out k (by rw [HSL.out];exact hke)
     rw [ha,hb,ht] at hg
     rw [ht] at kt
     by_cases hk1:k+1<ec
     ·have r1:=HB.out.cell (k+1) (by rw [hml];exact hk1)
      rw [mid_get u s k (k+1) HUL.out (by rw [HSL.out];exact hk) (by omega),hb] at r1
      have hkk:k≠k+1:=by omega
      have hB1:=HB.out.set k t
      have q0:=hB1.cell k (by rw [List.length_set,hml];exact hke)
      have q1:=hB1.cell (k+1) (by rw [List.length_set,hml];exact hk1)
      have q2:(wr.setCell ⟨g,k,none⟩ (.int .i64 ((t:Nat):Int))).frozen? ⟨g,k,none⟩=false:=Blk.frozen hB1 k
      rw [List.getD_eq_getElem?_getD,List.getElem?_set_self (by rw [hml];exact hke),Option.getD_some] at q0
      rw [List.getD_eq_getElem?_getD,List.getElem?_set_ne hkk,<- List.getD_eq_getElem?_getD,mid_get u s k (k+1) HUL.out (by rw [HSL.out];exact hk) (by omega),hb] at q1
      have hx:=i64_xor_nat t b (by omega) (by omega)
      obtain⟨z,hz⟩:∃ z,t ^^^ b=z:=⟨_,rfl⟩
      rw [hz] at hx hg
      have HN:=Aside0.mk (show IBlk ((wr.setCell ⟨g,k,none⟩ (.int .i64 ((t:Nat):Int))).drew.setCell ⟨g,k,none⟩ (.int .i64 ((z:Nat):Int))) g (mid u s (k+1)) by
       have:=IBlk.set (show IBlk (wr.setCell ⟨g,k,none⟩ (.int .i64 ((t:Nat):Int))).drew g _ from Blk.below hB1 (below_drew1 (Below.refl _ _)) (Blk.lt hB1)) k z
       rw [List.set_set,<- hg,mid_set u s k HUL.out (by rw [HSL.out];exact hke)] at this
       rw [hg] at this
       exact this)
      have HBN:=Aside0.mk (show Below g w ((wr.setCell ⟨g,k,none⟩ (.int .i64 ((t:Nat):Int))).drew.setCell ⟨g,k,none⟩ (.int .i64 ((z:Nat):Int))) from Below.setc (below_drew1 (Below.setc HBel.out (Nat.le_refl _) _)) (Nat.le_refl _) _)
      clear hB1 hz hg hb ht HB HBel HG
      have hk1i:(k:Int)+1<(ec:Int):=by omega
      go_wp2_with (go_at_call 120;refine kt.mono ?_;rintro e w' ⟨rfl,rfl⟩)
      apply held
      case r=>
       intro REST
       go_region
       all_goals exact REST
      go_wp2
      go_roundw
      case rel=>exact⟨k+1,by go_num,by omega,HN,HBN⟩
      case measure=>simp [intOf]<;>omega
     ·have hb0:b=0:=by
       rw [<- hb,List.getD_eq_getElem?_getD,List.getElem?_eq_none (by rw [HSL.out];omega)]
       rfl
      rw [hb0,Nat.xor_zero] at hg
      have HN:=Aside0.mk (show IBlk (wr.setCell ⟨g,k,none⟩ (.int .i64 ((t:Nat):Int))) g (mid u s (k+1)) by
       have:=HB.out.set k t
       rw [<- hg,mid_set u s k HUL.out (by rw [HSL.out];exact hke),hg] at this
       exact this)
      have HBN:=Aside0.mk (show Below g w (wr.setCell ⟨g,k,none⟩ (.int .i64 ((t:Nat):Int))) from Below.setc HBel.out (Nat.le_refl _) _)
      clear hg hb ht HB HBel HG hb0
      have hk1i:¬ (k:Int)+1<(ec:Int):=by omega
      go_wp2_with (go_at_call 120;refine kt.mono ?_;rintro e w' ⟨rfl,rfl⟩)
      go_roundw
      case rel=>exact⟨k+1,by go_num,by omega,HN,HBN⟩
      case measure=>simp [intOf]<;>omega
    ·have:k=ec:=by omega
     subst this
     have HB2:=Aside0.mk (show IBlk wr g (genTo k (i+1)) by rw [HNX.out,<- mid_all u s HUL.out,HSL.out];exact HB.out)
     have k2:=times120 wr r 2 hr8 (by decide)
     rw [HRX.out] at k2
     obtain⟨r2,hr2⟩:∃ r2,gx 8 285 (i+1)=r2:=⟨_,rfl⟩
     rw [hr2] at k2
     have HR2:=Aside0.mk hr2
     clear hr2
     go_wp2_with (go_at_call 120;refine k2.mono ?_;rintro e w' ⟨rfl,rfl⟩)
     go_roundw
     case rel=>exact⟨i+1,by go_num,by rw [HR2.out],by omega,HB2,HBel⟩
     case measure=>simp [intOf]<;>omega
  ·have:i=ec:=by omega
   subst this
   go_wp2
   go_ret
   exact⟨rfl,HB.out,HBel.out⟩
def ByteAt (w:World)(q off:Nat)(ds:List Nat):Prop:=∀ i,i<ds.length->w.cell? ⟨q,off+i,none⟩=some (.int .u8 ((ds.getD i 0:Nat):Int))
theorem ByteAt.below {w w':World}{q off B:Nat}{ds:List Nat}(h:ByteAt w q off ds)(hb:Below B w w')(hq:q<B):ByteAt w' q off ds :=
 fun i hi=>(hb.cell (p:=⟨q,off+i,none⟩) hq).trans (h i hi)
theorem rstep_get (g s:List Nat)(b k:Nat)(h:s.length=g.length)(hk:k<g.length):(rstep 8 285 g s b).getD k 0=s.getD (k+1) 0 ^^^ gm 8 285 (g.getD k 0) (b ^^^ s.headD 0):=by
 have hl:(rstep 8 285 g s b).length=g.length:=rstep_len g s b h (by omega)
 rw [List.getD_eq_getElem?_getD,List.getElem?_eq_getElem (by omega),Option.getD_some]
 unfold rstep
 rw [List.getElem_zipWith,List.getElem_map]
 have e1:g.getD k 0=g[k]:=by rw [List.getD_eq_getElem?_getD,List.getElem?_eq_getElem hk];rfl
 rw [e1]
 congr 1
 by_cases h2:k+1<s.length
 ·rw [List.getElem_append_left (by rw [List.length_tail];omega),List.getElem_tail,List.getD_eq_getElem?_getD,List.getElem?_eq_getElem h2]
  rfl
 ·rw [List.getElem_append_right (by rw [List.length_tail];omega),List.getD_eq_getElem?_getD,List.getElem?_eq_none (by omega)]
  simp
theorem rest_append (g:List Nat):∀ (l s:List Nat) (b:Nat),rest 8 285 g s (l++[b])=rstep 8 285 g (rest 8 285 g s l) b:=by
 intro l
 induction l with
 | nil=>intro s b;rfl
 | cons a l ih=>intro s b;exact ih _ b
theorem rest_len (g:List Nat)(h0:0<g.length):∀ (l s:List Nat),s.length=g.length->(rest 8 285 g s l).length=g.length:=by
 intro l
 induction l with
 | nil=>intro s h;exact h
 | cons a l ih=>intro s h;exact ih _ (rstep_len g s a h h0)
theorem rest_lt (g:List Nat)(hg:AllLt 8 g):∀ (l s:List Nat),AllLt 8 s->AllLt 8 (rest 8 285 g s l):=by
 intro l
 induction l with
 | nil=>intro s h;exact h
 | cons a l ih=>intro s h;exact ih _ (rstep_lt fQR g s a hg h)
def corrOf (ec:Nat)(ds:List Nat):List Nat:=rest 8 285 (genTo ec ec) (List.replicate ec 0) ds
theorem corrOf_len (ec:Nat)(ds:List Nat)(h:1<=ec):(corrOf ec ds).length=ec:=by
 unfold corrOf
 rw [rest_len _ (by rw [genTo_len ec ec h];omega) _ _ (by rw [genTo_len ec ec h];simp),genTo_len ec ec h]
theorem corrOf_lt (ec:Nat)(ds:List Nat):AllLt 8 (corrOf ec ds):=rest_lt _ (genTo_lt ec ec) _ _ (fun x hx=>by rw [List.eq_of_mem_replicate hx];decide)
theorem corrOf_next (ec:Nat)(ds:List Nat)(i:Nat)(hi:i<ds.length):corrOf ec (ds.take (i+1))=rstep 8 285 (genTo ec ec) (corrOf ec (ds.take i)) (ds.getD i 0):=by
 unfold corrOf
 rw [List.take_succ_eq_append_getElem hi,rest_append,List.getD_eq_getElem?_getD,List.getElem?_eq_getElem hi]
 rfl
theorem corr_root (ec i:Nat)(ds:List Nat)(h:1<=ec)(hi:i<ec)(hd:AllLt 8 ds):pev 8 285 (gx 8 285 i) (ds++corrOf ec ds)=0:=by
 have hl:=genTo_len ec ec h
 have:=code_root fQR (gx 8 285 i) (gx_lt fQR i) (genTo ec ec) ds (genTo_lt ec ec) (by omega) hd (by rw [hl];exact gen_root ec i h hi)
 rw [hl] at this
 exact this
set_option maxHeartbeats 2000000 in
set_option maxRecDepth 8000 in
theorem corr63 (w:World)(q off n m ec:Nat)(ds:List Nat)(hD:ByteAt w q off ds)(hq:q<w.heap.size)(hn:ds.length=n)(hn2:n<=100000)(hd:AllLt 8 ds)(h:1<=ec)(h2:ec<=1000) :
  Calls Tryz.prog 63 #[.slice (some ⟨q,off,none⟩) n m,.int .i64 (ec:Int)] w fun e w'=>∃ g,e=.returned (.slice (some ⟨g,0,none⟩) ec ec)/\w.heap.size<=g/\UBlk w' g (corrOf ec ds)/\Below w.heap.size w w':=by
 have kg:=gen119 w ec h h2
 have HD:=Aside0.mk hD
 have HQ:=Aside0.mk hq
 have HN:=Aside0.mk hn
 have HDD:=Aside0.mk hd
 obtain⟨g0,hg0⟩:∃ g0,g0=w.heap.size:=⟨_,rfl⟩
 rw [<- hg0] at kg ⊢
 have HG0:=Aside0.mk hg0
 clear hD hq hn hd hg0
 have HEC:=Aside0.mk h
 go_enter Tryz.func63,Tryz.ntmps63
 go_wp2_with (go_loud (go_at_call 119;refine kg.mono ?_;rintro e w1 ⟨rfl,hI,hB⟩;have hmk:=make_u8 ec (by omega) w1;have hlt:=Blk.lt hI;obtain⟨w2,hw2⟩:∃ w2,w2=w1.alloc (.cells (nums .u8 (ints (List.replicate ec 0))).toArray 5):=⟨_,rfl⟩;obtain⟨g1,hg1⟩:∃ g1,g1=w1.heap.size:=⟨_,rfl⟩;rw [<- hw2,<- hg1] at hmk;rw [<- hg1] at hlt;have HG1:=Aside0.mk hlt;have HI:=Aside0.mk (show IBlk w2 g0 (genTo ec ec) by rw [hw2];exact Blk.alloc hI _);have HB:=Aside0.mk (show Below g0 w w2 by rw [hw2];rw [HG0.out] at hB ⊢;exact below_alloc hB _);have HU:=Aside0.mk (show UBlk w2 g1 (corrOf ec (ds.take 0)) by rw [hw2,hg1];exact Blk.new _ _ _);clear hI hB hlt hw2 hg1))
 clear kg hmk
 go_loopw [18] (fun vi wr=>∃ i:Nat,vi=.int .i64 (i:Int)/\i<=n/\Aside0 (IBlk wr g0 (genTo ec ec))/\Aside0 (UBlk wr g1 (corrOf ec (ds.take i)))/\Aside0 (Below g0 w wr)) (fun vi _=>(n-intOf vi).toNat)
 case atStart=>exact⟨0,rfl,Nat.zero_le _,HI,HU,HB⟩
 case round=>
  clear HI HU HB
  obtain⟨i,rfl,hi,HI,HU,HB⟩:=hrel
  by_cases hin:i<n
  ·obtain⟨b,hb⟩:∃ b,ds.getD i 0=b:=⟨_,rfl⟩
   have hb8:b<256:=by rw [<- hb];exact getD_lt HDD.out i
   have r0:wr.cell? ⟨q,off+i,none⟩=some (.int .u8 (b:Int)):=by
    have:=HD.out.below HB.out (by rw [HG0.out];exact HQ.out) i (by rw [HN.out];exact hin)
    rw [hb] at this
    exact this
   obtain⟨s,hs⟩:∃ s,corrOf ec (ds.take i)=s:=⟨_,rfl⟩
   have hsl:s.length=ec:=by rw [<- hs];exact corrOf_len ec _ HEC.out
   have hs8:AllLt 8 s:=by rw [<- hs];exact corrOf_lt ec _
   rw [hs] at HU
   obtain⟨a,ha⟩:∃ a,s.getD 0 0=a:=⟨_,rfl⟩
   have ha8:a<256:=by rw [<- ha];exact getD_lt hs8 0
   have r1:wr.cell? ⟨g1,0,none⟩=some (.int .u8 (a:Int)):=by
    have:=UBlk.cell HU.out 0 (by rw [hsl];exact h)
    rw [ha] at this
    exact this
   have hx:=u8_xor_nat b a (by omega) (by omega)
   obtain⟨f,hf⟩:∃ f,b ^^^ a=f:=⟨_,rfl⟩
   have hf8:f<256:=by rw [<- hf];exact Nat.xor_lt_two_pow (n:=8) hb8 ha8
   rw [hf] at hx
   obtain⟨G,hG⟩:∃ G,genTo ec ec=G:=⟨_,rfl⟩
   have hGl:G.length=ec:=by rw [<- hG];exact genTo_len ec ec HEC.out
   have hG8:AllLt 8 G:=by rw [<- hG];exact genTo_lt ec ec
   obtain⟨u,hu⟩:∃ u,rstep 8 285 G s b=u:=⟨_,rfl⟩
   have hul:u.length=s.length:=by rw [<- hu,rstep_len G s b (by omega) (by omega)];omega
   have hhd:s.headD 0=a:=by rw [<- ha];cases s<;>rfl
   have HNX:=Aside0.mk (show corrOf ec (ds.take (i+1))=u by rw [corrOf_next ec ds i (by rw [HN.out];exact hin),hG,hs,hb,hu])
   have HGT:=Aside0.mk (show ∀ k,k<ec->u.getD k 0=s.getD (k+1) 0 ^^^ gm 8 285 (G.getD k 0) f from fun k hk=>by rw [<- hu,rstep_get G s b k (by omega) (by omega),hhd,hf])
   rw [hG] at HI
   have HGE:=Aside0.mk hG
   have HGL:=Aside0.mk hGl
   have HG8:=Aside0.mk hG8
   have HSL:=Aside0.mk hsl
   have HS8:=Aside0.mk hs8
   have HUL:=Aside0.mk hul
   have HU0:=Aside0.mk (show UBlk wr g1 (mid u s 0) by rw [mid_zero];exact HU.out)
   have hec0:(0:Int)<(ec:Int):=by omega
   clear hb hs hsl hs8 ha hf hG hGl hG8 hu hul hhd
   go_wp2_with fail
   clear r0 r1 hx
   go_loopw [30] (fun vk wx=>∃ k:Nat,vk=.int .i64 (k:Int)/\k<=ec/\Aside0 (IBlk wx g0 G)/\Aside0 (UBlk wx g1 (mid u s k))/\Aside0 (Below g0 w wx)) (fun vk _=>(ec-intOf vk).toNat)
   case atStart=>exact⟨0,rfl,Nat.zero_le _,HI,HU0,HB⟩
   case round=>
    clear HI HU HB HU0
    obtain⟨k,rfl,hk,HI,HU,HB⟩:=hrel
    by_cases hke:k<ec
    ·have hml:=mid_len u s k HUL.out (by rw [HSL.out];exact hk)
     rw [HSL.out] at hml
     obtain⟨a,ha⟩:∃ a,G.getD k 0=a:=⟨_,rfl⟩
     have ha8:a<256:=by rw [<- ha];exact getD_lt HG8.out k
     obtain⟨c,hc⟩:∃ c,s.getD (k+1) 0=c:=⟨_,rfl⟩
     have hc8:c<256:=by rw [<- hc];exact getD_lt HS8.out (k+1)
     have r0:=HI.out.cell k (by rw [HGL.out];exact hke)
     rw [ha] at r0
     have y2:wr.frozen? ⟨g1,k,none⟩=false:=Blk.frozen HU.out k
     have y3:=HU.out.cell k (by rw [hml];exact hke)
     have kt:=times120 wr a f ha8 hf8
     have hg:=HGT.out k hke
     obtain⟨t,ht⟩:∃ t,gm 8 285 a f=t:=⟨_,rfl⟩
     have ht8:t<256:=by rw [<- ht];exact gm_lt fQR a f ha8
     rw [ha,hc,ht] at hg
     rw [ht] at kt
     have hx:=u8_xor_nat c t (by omega) (by omega)
     obtain⟨z,hz⟩:∃ z,c ^^^ t=z:=⟨_,rfl⟩
     rw [hz] at hx hg
     have hz8:z<256:=by rw [<- hz];exact Nat.xor_lt_two_pow (n:=8) hc8 ht8
     have HN:=Aside0.mk (show UBlk (wr.setCell ⟨g1,k,none⟩ (.int .u8 ((z:Nat):Int))) g1 (mid u s (k+1)) by
      have:=HU.out.set k z
      rw [<- hg,mid_set u s k HUL.out (by rw [HSL.out];exact hke),hg] at this
      exact this)
     have HI2:=Aside0.mk (show IBlk (wr.setCell ⟨g1,k,none⟩ (.int .u8 ((z:Nat):Int))) g0 G from Blk.far HI.out (by have:=HG1.out;show g0≠g1;omega) _)
     have HB2:=Aside0.mk (show Below g0 w (wr.setCell ⟨g1,k,none⟩ (.int .u8 ((z:Nat):Int))) from Below.setc HB.out (Nat.le_of_lt HG1.out) _)
     have htm:(t:Int)%256=(t:Int):=by omega
     by_cases hk1:k+1<ec
     ·have r1:=HU.out.cell (k+1) (by rw [hml];exact hk1)
      rw [mid_get u s k (k+1) HUL.out (by rw [HSL.out];exact hk) (by omega),hc] at r1
      have hk1i:(k:Int)+1<(ec:Int):=by omega
      clear ha hc ht hz hg
      go_wp2_with (go_at_call 120;refine kt.mono ?_;rintro e w' ⟨rfl,rfl⟩)
      go_roundw
      case rel=>exact⟨k+1,by go_num,by omega,HI2,HN,HB2⟩
      case measure=>simp [intOf]<;>omega
     ·have hc0:c=0:=by
       rw [<- hc,List.getD_eq_getElem?_getD,List.getElem?_eq_none (by rw [HSL.out];omega)]
       rfl
      have hk1i:¬ (k:Int)+1<(ec:Int):=by omega
      rw [hc0] at hx
      have hx':Go.bits .xor .u8 0 (t:Int)=(z:Int):=hx
      clear ha hc ht hz hg hc0 hx
      go_wp2_with (go_at_call 120;refine kt.mono ?_;rintro e w' ⟨rfl,rfl⟩)
      go_roundw
      case rel=>exact⟨k+1,by go_num,by omega,HI2,HN,HB2⟩
      case measure=>simp [intOf]<;>omega
    ·have:k=ec:=by omega
     subst this
     have HI2:=Aside0.mk (show IBlk wr g0 (genTo k k) by rw [HGE.out];exact HI.out)
     have HU2:=Aside0.mk (show UBlk wr g1 (corrOf k (ds.take (i+1))) by rw [HNX.out,<- mid_all u s HUL.out,HSL.out];exact HU.out)
     go_wp2
     go_roundw
     case rel=>exact⟨i+1,by go_num,by omega,HI2,HU2,HB⟩
     case measure=>simp [intOf]<;>omega
  ·have:i=n:=by omega
   subst this
   go_wp2
   go_ret
   exact⟨g1,rfl,Nat.le_of_lt HG1.out,by have:=HU.out;rwa [List.take_of_length_le (by rw [HN.out];omega)] at this,HB.out⟩
def sizesTo (c d n i:Nat):List Nat:=(List.range n).map fun k=>if k<i then dl c d k else 0
def sizesOf (c d n:Nat):List Nat:=(List.range n).map (dl c d)
theorem sizesTo_len (c d n i:Nat):(sizesTo c d n i).length=n:=by simp [sizesTo]
theorem sizesTo_zero (c d n:Nat):sizesTo c d n 0=List.replicate n 0:=by
 apply List.ext_getElem (by simp [sizesTo])
 intro i h1 h2
 simp [sizesTo]
theorem sizesTo_all (c d n:Nat):sizesTo c d n n=sizesOf c d n:=by
 unfold sizesTo sizesOf
 apply List.map_congr_left
 intro k hk
 rw [if_pos (List.mem_range.1 hk)]
theorem sizesTo_set (c d n i:Nat)(h:i<n):(sizesTo c d n i).set i (dl c d i)=sizesTo c d n (i+1):=by
 apply List.ext_getElem (by simp [sizesTo])
 intro k h1 h2
 rw [List.getElem_set]
 simp only [sizesTo,List.getElem_map,List.getElem_range]
 by_cases hk:i=k
 ·subst hk
  rw [if_pos rfl,if_pos (by omega)]
 ·rw [if_neg hk]
  by_cases h3:k<i
  ·rw [if_pos h3,if_pos (by omega)]
  ·rw [if_neg h3,if_neg (by omega)]
theorem sizesOf_get (c d n i:Nat)(h:i<n):(sizesOf c d n).getD i 0=dl c d i:=by
 rw [List.getD_eq_getElem?_getD,List.getElem?_eq_getElem (by simp [sizesOf];omega)]
 simp [sizesOf]
theorem sizesOf_len (c d n:Nat):(sizesOf c d n).length=n:=by simp [sizesOf]
set_option maxHeartbeats 1000000 in
set_option maxRecDepth 8000 in
theorem sizes62 (w:World)(v l:Nat)(hv:1<=v/\v<=40)(hl:l<4) :
  Calls Tryz.prog 62 #[.int .i64 (v:Int),.int .i64 (l:Int)] w fun e w'=>∃ g,e=.returned (.slice (some ⟨g,0,none⟩) (lvC v l+lvC2 v l) (lvC v l+lvC2 v l))/\w.heap.size<=g/\IBlk w' g (sizesOf (lvC v l) (lvD v l) (lvC v l+lvC2 v l))/\Below w.heap.size w w':=by
 have k1:=corr55 w v l hv hl
 have K2:=Aside0.mk (fun W=>total56 W v hv)
 have L:=lay_at v l hv hl
 have h1:=L.tot
 have h2:=(tot_row v hv).2
 have hc1:=L.c1
 have hcc:=L.cc
 have he2:=L.e2
 have hd2:=L.d2
 obtain⟨e,he⟩:∃ e,lvE v l=e:=⟨_,rfl⟩
 obtain⟨c,hc⟩:∃ c,lvC v l=c:=⟨_,rfl⟩
 obtain⟨d,hd⟩:∃ d,lvD v l=d:=⟨_,rfl⟩
 obtain⟨c2,hc2⟩:∃ c2,lvC2 v l=c2:=⟨_,rfl⟩
 obtain⟨T,hT⟩:∃ T,roomN v/8=T:=⟨_,rfl⟩
 rw [he,hc,hc2] at k1
 rw [hc,hd,hc2]
 rw [hT] at K2
 rw [he,hc,hd,hc2,hT] at h1
 rw [hc] at hc1
 rw [hc,hc2] at hcc
 rw [he] at he2
 rw [hd] at hd2
 obtain⟨n,hn⟩:∃ n,c+c2=n:=⟨_,rfl⟩
 rw [hn] at k1 h1 hcc ⊢
 have hT5:T<=5000:=by omega
 have hc2n:c2<n:=by omega
 have hn0:0<n:=by omega
 have e1:T=c2+n*(d+e):=by
  have:n*(d+e)=d*n+e*n:=by rw [Nat.mul_comm,Nat.add_mul]
  omega
 have e2:T/n=d+e:=by rw [e1,Nat.add_mul_div_left _ _ hn0,Nat.div_eq_of_lt hc2n,Nat.zero_add]
 have e3:T%n=c2:=by rw [e1,Nat.add_mul_mod_self_left,Nat.mod_eq_of_lt hc2n]
 obtain⟨dq,hdq⟩:∃ dq,d+e=dq:=⟨_,rfl⟩
 rw [hdq] at e2
 have q1:(T:Int)/(n:Int)=(dq:Int):=by rw [<- e2];rfl
 have q2:(T:Int)%(n:Int)=(c2:Int):=by rw [<- e3];rfl
 have q3:(dq:Int)-(e:Int)=(d:Int):=by omega
 have q4:(n:Int)-(c2:Int)=(c:Int):=by omega
 have hdq3:dq<=300:=by omega
 have hn00:(n:Int)≠0:=by omega
 clear L h1 h2 he hc hd hc2 hT hn e1 e2 e3 hdq
 have HN:=Aside0.mk hn0
 go_enter Tryz.func62,Tryz.ntmps62
 go_wp2_with (first | (go_at_call 55;refine k1.mono ?_;rintro e w1 ⟨rfl,hb1⟩;have HB1:=Aside0.mk hb1;clear hb1) | (go_at_call 56;refine (K2.out _).mono ?_;rintro e w2 ⟨rfl,hb2⟩;have HB2:=Aside0.mk (HB1.out.trans (hb2.mono HB1.out.size));have hmk:=make_i64 n (by omega) w2;obtain⟨w3,hw3⟩:∃ w3,w3=w2.alloc (.cells (nums .i64 (ints (List.replicate n 0))).toArray 3):=⟨_,rfl⟩;obtain⟨g,hg⟩:∃ g,g=w2.heap.size:=⟨_,rfl⟩;have HG:=Aside0.mk (show w.heap.size<=g by rw [hg];exact HB2.out.size);rw [<- hw3,<- hg] at hmk;have HI:=Aside0.mk (show IBlk w3 g (sizesTo c d n 0) by rw [hw3,hg,sizesTo_zero];exact Blk.new _ _ _);have HB:=Aside0.mk (show Below w.heap.size w w3 by rw [hw3];exact Below.alloc HB2.out HB2.out.size _);clear hb2 hw3 hg))
 clear k1 hmk
 go_loopw [22] (fun vi wr=>∃ i:Nat,vi=.int .i64 (i:Int)/\i<=n/\Aside0 (IBlk wr g (sizesTo c d n i))/\Aside0 (Below w.heap.size w wr)) (fun vi _=>(n-intOf vi).toNat)
 case atStart=>exact⟨0,rfl,Nat.zero_le _,HI,HB⟩
 case round=>
  clear HI HB
  obtain⟨i,rfl,hi,HI,HB⟩:=hrel
  by_cases hin:i<n
  ·have y1:=HI.out.cell i (by rw [sizesTo_len];exact hin)
   have y2:wr.frozen? ⟨g,i,none⟩=false:=Blk.frozen HI.out i
   have hB1:=HI.out.set i d
   have y3:(wr.setCell ⟨g,i,none⟩ (.int .i64 (d:Int))).cell? ⟨g,i,none⟩=some (.int .i64 (d:Int)):=by
    have:=hB1.cell i (by rw [List.length_set,sizesTo_len];exact hin)
    rwa [List.getD_eq_getElem?_getD,List.getElem?_set_self (by rw [sizesTo_len];exact hin),Option.getD_some] at this
   have y4:(wr.setCell ⟨g,i,none⟩ (.int .i64 (d:Int))).frozen? ⟨g,i,none⟩=false:=Blk.frozen hB1 i
   have hnx:=sizesTo_set c d n i hin
   have HB1:=Aside0.mk (Below.setc HB.out HG.out (i:=i) (.int .i64 (d:Int)))
   by_cases hic:i<c
   ·have HI1:=Aside0.mk (show IBlk (wr.setCell ⟨g,i,none⟩ (.int .i64 (d:Int))) g (sizesTo c d n (i+1)) by
     rw [show dl c d i=d by unfold dl;rw [if_pos hic]] at hnx
     rw [hnx] at hB1
     exact hB1)
    have hic2:¬ (c:Int)<=(i:Int):=by omega
    clear hB1 hnx
    go_wp2
    go_roundw
    case rel=>exact⟨i+1,by go_num,by omega,HI1,HB1⟩
    case measure=>simp [intOf]<;>omega
   ·have HI1:=Aside0.mk (show IBlk ((wr.setCell ⟨g,i,none⟩ (.int .i64 (d:Int))).setCell ⟨g,i,none⟩ (.int .i64 ((d+1:Nat):Int))) g (sizesTo c d n (i+1)) by
     have:=hB1.set i (d+1)
     rw [List.set_set] at this
     rw [show dl c d i=d+1 by unfold dl;rw [if_neg hic]] at hnx
     rw [hnx] at this
     exact this)
    have HB2:=Aside0.mk (Below.setc HB1.out HG.out (i:=i) (.int .i64 ((d+1:Nat):Int)))
    have hic2:(c:Int)<=(i:Int):=by omega
    clear hB1 hnx
    go_wp2
    go_roundw
    case rel=>exact⟨i+1,by go_num,by omega,HI1,HB2⟩
    case measure=>simp [intOf]<;>omega
  ·have:i=n:=by omega
   subst this
   go_wp2
   go_ret
   exact⟨g,rfl,HG.out,by have:=HI.out;rwa [sizesTo_all] at this,HB.out⟩
def offB (c d k:Nat):Nat:=k*d+(k-c)
theorem offB_zero (c d:Nat):offB c d 0=0:=by simp [offB]
theorem offB_succ (c d k:Nat):offB c d (k+1)=offB c d k+dl c d k:=by
 unfold offB dl
 rw [Nat.add_mul,Nat.one_mul]
 split<;>omega
theorem offB_mono (c d k:Nat):∀ m,offB c d k<=offB c d (k+m)
 | 0=>Nat.le_refl _
 | m+1=>by have:=offB_mono c d k m;rw [<- Nat.add_assoc,offB_succ];omega
theorem offB_end (c d c2:Nat):offB c d (c+c2)=d*(c+c2)+c2:=by
 unfold offB
 rw [Nat.mul_comm,show c+c2-c=c2 by omega]
def segB (c d:Nat)(ws:List Nat)(k:Nat):List Nat:=(ws.drop (offB c d k)).take (dl c d k)
theorem segB_len (c d:Nat)(ws:List Nat)(k:Nat)(h:offB c d k+dl c d k<=ws.length):(segB c d ws k).length=dl c d k:=by
 simp [segB];omega
def codeB (c d e:Nat)(ws:List Nat)(k:Nat):List Nat:=segB c d ws k++corrOf e (segB c d ws k)
theorem segB_lt (c d:Nat)(ws:List Nat)(k:Nat)(h:AllLt 8 ws):AllLt 8 (segB c d ws k):=fun x hx=>h x (List.mem_of_mem_drop (List.mem_of_mem_take hx))
theorem codeB_lt (c d e:Nat)(ws:List Nat)(k:Nat)(h:AllLt 8 ws):AllLt 8 (codeB c d e ws k):=by
 intro x hx
 rcases List.mem_append.1 hx with h1 | h1
 ·exact segB_lt c d ws k h x h1
 ·exact corrOf_lt _ _ x h1
theorem add_off (g o j:Nat):(⟨g,o,none⟩:Addr).add j=⟨g,o+j,none⟩:=by unfold Addr.add;split<;>simp_all
theorem ByteAt.reads {w:World}{q off:Nat}{ds:List Nat}(h:ByteAt w q off ds)(hl:ds.length<=1000000):ReadsInt w .u8 (some ⟨q,off,none⟩) ds.length (ints ds):=by
 refine⟨ints_len _,by omega,fun _=>⟨_,rfl,fun j hj=>?_⟩⟩
 rw [add_off,h j hj]
 simp [ints,List.getD_eq_getElem?_getD,List.getElem?_map,List.getElem?_eq_getElem hj]
theorem ByteAt.part {w:World}{q off m:Nat}{ds:List Nat}(h:ByteAt w q 0 ds):ByteAt w q off ((ds.drop off).take m):=by
 intro i hi
 have hl:i<m/\off+i<ds.length:=by simp at hi;omega
 have:=h (off+i) hl.2
 rw [Nat.zero_add] at this
 rw [this,List.getD_eq_getElem?_getD,List.getD_eq_getElem?_getD,List.getElem?_take_of_lt hl.1,List.getElem?_drop]
theorem UBlk.bytes {w:World}{q:Nat}{ds:List Nat}(h:UBlk w q ds):ByteAt w q 0 ds:=fun i hi=>by rw [Nat.zero_add];exact h.cell i hi
theorem own_bytes {w:World}{base n:Nat}{v:Value}{xs:List Nat}(h:w.ownsRow base 5 1 v n (nums .u8 (ints xs)))(h0:0<n) :
  ∃ q c,v=.slice (some ⟨q,0,none⟩) n c/\base<=q/\n<=c/\(∃ cs,Blk w q 5 cs)/\ByteAt w q 0 xs/\xs.length=n:=by
 obtain⟨hlen,h2⟩:=h
 have hxn:xs.length=n:=by rw [<- ints_len xs];simpa [nums] using hlen
 rcases h2 with⟨rfl,h3⟩ | ⟨q,c,cs,rfl,hb,hh,hc,hm,hs,ht⟩
 ·omega
 ·refine⟨q,c,rfl,hb,hc,⟨cs,hh⟩,fun i hi=>?_,hxn⟩
  rw [Nat.zero_add]
  have hk:=Blk.cell hh i
  rw [hk]
  have h5:(cs.toList.take n)[i]? = (nums .u8 (ints xs))[i]?:=by rw [Nat.mul_one] at ht;rw [ht]
  rw [List.getElem?_take_of_lt (by omega)] at h5
  rw [<- Array.getElem?_toList,h5]
  simp [nums,ints,List.getElem?_map,List.getElem?_eq_getElem hi,List.getD_eq_getElem?_getD]
structure BlkRows (w:World)(B:Nat)(vo:Value)(n:Nat)(code:Nat->List Nat)(qs cs:Nat->Nat):Prop where
 own:w.ownsRow B 26 1 vo n ((List.range n).map fun k=>.slice (some ⟨qs k,0,none⟩) (code k).length (cs k))
 blk:∀ k,k<n->B<=qs k/\(code k).length<=cs k/\(∃ ys,Blk w (qs k) 5 ys)/\ByteAt w (qs k) 0 (code k)
theorem BlkRows.below {w w':World}{B D:Nat}{vo:Value}{n:Nat}{code:Nat->List Nat}{qs cs:Nat->Nat}(h:BlkRows w B vo n code qs cs)(hb:Below D w w')(hD:w.heap.size<=D):BlkRows w' B vo n code qs cs:=by
 refine⟨own_move h.own fun k hk=>?_,fun k hk=>?_⟩
 ·obtain⟨cq,hq⟩:=own_blk h.own k hk
  exact hb.block k (Nat.lt_of_lt_of_le hq.lt hD)
 ·obtain⟨h1,h2,⟨ys,h3⟩,h4⟩:=h.blk k hk
  have hlt:=Nat.lt_of_lt_of_le h3.lt hD
  exact⟨h1,h2,⟨ys,h3.below hb hlt⟩,h4.below hb hlt⟩
theorem BlkRows.nil (w:World)(B:Nat)(code:Nat->List Nat)(qs cs:Nat->Nat):BlkRows w B (.slice none 0 0) 0 code qs cs:=⟨⟨rfl,.inl ⟨rfl,rfl⟩⟩,fun k hk=>absurd hk (by omega)⟩
theorem BlkRows.step {W w1:World}{B q c:Nat}{vo v1:Value}{n:Nat}{code:Nat->List Nat}{qs cs:Nat->Nat}{ys:Array Value}(h:BlkRows W B vo n code qs cs)(hq:B<=q)(hc:(code n).length<=c)(hy:Blk W q 5 ys)(hb:ByteAt W q 0 (code n))
  (ho:w1.ownsRow B 26 1 v1 (n+1) (((List.range n).map fun k=>(.slice (some ⟨qs k,0,none⟩) (code k).length (cs k):Value))++[.slice (some ⟨q,0,none⟩) (code n).length c])) (hg:W.grownBy w1 vo.ownBlock) :
  BlkRows w1 B v1 (n+1) code (fun k=>if k<n then qs k else q) (fun k=>if k<n then cs k else c):=by
 refine⟨?_,fun k hk=>?_⟩
 ·have e:((List.range (n+1)).map fun k=>(.slice (some ⟨if k<n then qs k else q,0,none⟩) (code k).length (if k<n then cs k else c):Value))=((List.range n).map fun k=>(.slice (some ⟨qs k,0,none⟩) (code k).length (cs k):Value))++[.slice (some ⟨q,0,none⟩) (code n).length c]:=by
   rw [List.range_succ,List.map_append,List.map_cons,List.map_nil,if_neg (by omega),if_neg (by omega)]
   congr 1
   apply List.map_congr_left
   intro k hk
   have:=List.mem_range.1 hk
   simp only [if_pos this]
  rw [e]
  exact ho
 ·have mv:∀ (g:Nat) (zs:Array Value),Blk W g 5 zs->w1.heap[g]? = W.heap[g]?:=fun g zs hz=>hg.block g hz.lt (own_ne h.own hz (by decide))
  have mb:∀ (g:Nat) (zs:Array Value) (ds:List Nat),Blk W g 5 zs->ByteAt W g 0 ds->ByteAt w1 g 0 ds:=fun g zs ds hz hd i hi=>by
   have:=hd i hi
   unfold World.cell? at this ⊢
   rw [mv g zs hz]
   exact this
  by_cases hkn:k<n
  ·simp only [if_pos hkn]
   obtain⟨h1,h2,⟨zs,h3⟩,h4⟩:=h.blk k hkn
   exact⟨h1,h2,⟨zs,(mv _ zs h3).trans h3⟩,mb _ zs _ h3 h4⟩
  ·obtain rfl:k=n:=by omega
   simp only [if_neg hkn]
   exact⟨hq,hc,⟨ys,(mv _ ys hy).trans hy⟩,mb _ ys _ hy hb⟩
set_option maxHeartbeats 4000000 in
set_option maxRecDepth 8000 in
theorem split27 (w:World)(v l q N cN:Nat)(ws:List Nat)(hv:1<=v/\v<=40)(hl:l<4)(hD:ByteAt w q 0 ws)(hq:q<w.heap.size)(hn:ws.length=N)(hr:N=roomD v l)(hw:AllLt 8 ws)(hc:N<=cN) :
  Calls Tryz.prog 27 #[.slice (some ⟨q,0,none⟩) N cN,.int .i64 (v:Int),.int .i64 (l:Int)] w fun e w'=>∃ vo qs cs,e=.returned vo/\BlkRows w' w.heap.size vo (lvC v l+lvC2 v l) (codeB (lvC v l) (lvD v l) (lvE v l) ws) qs cs/\Below w.heap.size w w':=by
 have k1:=corr55 w v l hv hl
 have K2:=Aside0.mk (fun W=>sizes62 W v l hv hl)
 have L:=lay_at v l hv hl
 have h1:=L.tot
 have h2:=(tot_row v hv).2
 have hc1:=L.c1
 have hcc:=L.cc
 have he1:=L.e1
 have he2:=L.e2
 have hd1:=L.d1
 have hd2:=L.d2
 unfold roomD at hr
 obtain⟨e,he⟩:∃ e,lvE v l=e:=⟨_,rfl⟩
 obtain⟨c,hcv⟩:∃ c,lvC v l=c:=⟨_,rfl⟩
 obtain⟨d,hd⟩:∃ d,lvD v l=d:=⟨_,rfl⟩
 obtain⟨c2,hc2⟩:∃ c2,lvC2 v l=c2:=⟨_,rfl⟩
 rw [he,hcv,hd,hc2] at h1
 rw [hcv,hc2] at hcc
 rw [he,hcv,hc2] at k1
 rw [hcv,hd,hc2] at K2 hr
 rw [he] at he1 he2
 rw [hcv] at hc1
 rw [hd] at hd1 hd2
 rw [hcv,hd,hc2,he]
 obtain⟨n,hnn⟩:∃ n,c+c2=n:=⟨_,rfl⟩
 have hend:=offB_end c d c2
 rw [hnn] at k1 K2 hr hend hcc h1 ⊢
 have hNN:offB c d n=N:=by omega
 have hN5:N<=5000:=by omega
 have HEND:=Aside0.mk hNN
 have HD:=Aside0.mk hD
 have HQ:=Aside0.mk hq
 have HN:=Aside0.mk hn
 have HW:=Aside0.mk hw
 have HE1:=Aside0.mk he1
 have HE2:=Aside0.mk he2
 have HD1:=Aside0.mk hd1
 have HD2:=Aside0.mk hd2
 have HCN:=Aside0.mk hc
 clear L h1 h2 he hcv hd hc2 hr hnn hend hNN hD hq hn hw he1 he2 hd1 hd2 hc hc1
 go_enter Tryz.func27,Tryz.ntmps27
 go_wp2_with (first | (go_at_call 55;refine k1.mono ?_;rintro e w1 ⟨rfl,hb1⟩;have HB1:=Aside0.mk hb1;clear hb1) | (go_at_call 62;refine (K2.out _).mono ?_;rintro e w2 ⟨gs,rfl,hgs,hI,hb2⟩;have HB2:=Aside0.mk (HB1.out.trans (hb2.mono HB1.out.size));have HI:=Aside0.mk hI;have HGS:=Aside0.mk (show w.heap.size<=gs from Nat.le_trans HB1.out.size hgs);clear hgs hb2 hI))
 clear k1
 go_loopw [9,10,24] (fun vo va vi wr=>∃ (i o:Nat) (qs cs:Nat->Nat),vi=.int .i64 (i:Int)/\va=.int .i64 (o:Int)/\i<=n/\o<=N/\Aside0 (o=offB c d i)/\Aside0 (BlkRows wr w.heap.size vo i (codeB c d e ws) qs cs)/\Aside0 (IBlk wr gs (sizesOf c d n))/\Aside0 (Below w.heap.size w wr)) (fun _ _ vi _=>(n-intOf vi).toNat)
 case atStart=>exact⟨0,0,fun _=>0,fun _=>0,rfl,rfl,Nat.zero_le _,Nat.zero_le _,⟨(offB_zero c d).symm⟩,⟨BlkRows.nil _ _ _ _ _⟩,HI,HB2⟩
 case round=>
  clear HI HB2
  obtain⟨i,o,qs,cs,rfl,rfl,hi,ho,HO,HR,HI,HB⟩:=hrel
  by_cases hin:i<n
  ·obtain⟨m,hm⟩:∃ m,dl c d i=m:=⟨_,rfl⟩
   have hnx:=offB_succ c d i
   rw [hm,<- HO.out] at hnx
   have hmn:=offB_mono c d (i+1) (n-(i+1))
   rw [show i+1+(n-(i+1))=n by omega,HEND.out,hnx] at hmn
   have hm0:0<m:=by rw [<- hm];unfold dl;have:=HD1.out;split<;>omega
   have hm2:m<=300:=by rw [<- hm];unfold dl;have:=HD2.out;split<;>omega
   have r0:=HI.out.cell i (by rw [sizesOf_len];exact hin)
   rw [sizesOf_get c d n i hin,hm] at r0
   obtain⟨ds,hds⟩:∃ ds,segB c d ws i=ds:=⟨_,rfl⟩
   have hdl:ds.length=m:=by rw [<- hds,segB_len c d ws i (by rw [hm,<- HO.out,HN.out];exact hmn),hm]
   have hd8:AllLt 8 ds:=by rw [<- hds];exact segB_lt c d ws i HW.out
   have HDW:=Aside0.mk (show ∀ W,Below wr.heap.size wr W->ByteAt W q o ds/\q<W.heap.size from fun W hW=>by
    have hqr:=Nat.lt_of_lt_of_le HQ.out HB.out.size
    have:=(HD.out.below HB.out HQ.out).below hW hqr
    refine⟨?_,Nat.lt_of_lt_of_le hqr hW.size⟩
    rw [<- hds,HO.out]
    unfold segB
    exact this.part)
   have HDC:=Aside0.mk (show codeB c d e ws i=ds++corrOf e ds by unfold codeB;rw [hds])
   have HNX:=Aside0.mk hnx.symm
   have HDL:=Aside0.mk hdl
   have HD8:=Aside0.mk hd8
   have hcn:=HCN.out
   have hmm:o+m-o=m:=by omega
   have HE:=Aside0.mk hmm
   have HM0:=Aside0.mk hm0
   have K63:=Aside0.mk (show ∀ W,Below wr.heap.size wr W->Calls Tryz.prog 63 #[.slice (some ⟨q,o,none⟩) m (cN-o),.int .i64 (e:Int)] W fun e0 w'=>∃ g,e0=.returned (.slice (some ⟨g,0,none⟩) e e)/\W.heap.size<=g/\UBlk w' g (corrOf e ds)/\Below W.heap.size W w' from fun W hW=>corr63 W q o m (cN-o) e ds (HDW.out W hW).1 (HDW.out W hW).2 HDL.out (by omega) HD8.out HE1.out (by have:=HE2.out;omega))
   have HR':=HR
   have he100:e<=100:=HE2.out
   clear hm hnx hds hdl hd8 hmm
   go_wp2_with (first
    | ((with_reducible refine gate_builtin (b:=.append) (xs:=#[.const (.slice none 0 0),.tmp 33]) rfl ?_);at_builtin;go_loud (refine print_append_row (w0:=wr) wr.heap.size rfl (.const (.slice none 0 0)) (.tmp 33) 26 5 .u8 1 rfl Tryz.underlying26 F.info5 (by decide) (.slice none 0 0) [] (ints ds) (some ⟨q,o,none⟩) m (cN-o) rfl (by first | rfl | simp [Act.eval,Act.put]) (own_nil' _ _) ?aR (Below.refl _ _) (Nat.le_refl _) ?aL ?_;(case aR=>(have h1:=ByteAt.reads (HDW.out _ (Below.refl _ _)).1 (by rw [HDL.out];omega);rw [HDL.out] at h1;exact h1));(case aL=>(simp;omega));intro v1 w1 ho1 hb1 hg1 hat1;rw [List.nil_append,ints_len,HDL.out] at ho1;obtain⟨A1,c1,hv1⟩:=own_slice ho1;subst hv1;have HO1:=Aside0.mk ho1;have HB1:=Aside0.mk hb1;clear ho1 hb1 hg1 hat1))
    | (go_at_call 63;go_loud (first | refine (K63.out _ HB1.out).mono ?_ | (rw [HE.out];refine (K63.out _ HB1.out).mono ?_));rintro e0 w3 ⟨g,rfl,hg,hU,hb3⟩;have HU:=Aside0.mk hU;have HG:=Aside0.mk hg;have HB3:=Aside0.mk hb3;have HO3:=Aside0.mk (own_move HO1.out fun k hk=>(by obtain⟨cs1,hbk⟩:=own_blk HO1.out k hk;exact hb3.block k hbk.lt));have HB13:=Aside0.mk (HB1.out.trans (hb3.mono HB1.out.size));clear hg hU hb3)
    | ((with_reducible refine gate_builtin (b:=.append) (xs:=#[.tmp 36,.tmp 44]) rfl ?_);at_builtin;go_loud (refine print_append_row (w0:=wr) wr.heap.size rfl (.tmp 36) (.tmp 44) 26 5 .u8 1 rfl Tryz.underlying26 F.info5 (by decide) (.slice A1 m c1) (ints ds) (ints (corrOf e ds)) (some ⟨g,0,none⟩) e e rfl rfl ?aO ?aR HB13.out HB13.out.size ?aL ?_;(case aO=>(rw [ints_len,HDL.out];exact HO3.out));(case aR=>(have h1:=ByteAt.reads HU.out.bytes (by rw [corrOf_len e ds HE1.out];omega);rw [corrOf_len e ds HE1.out] at h1;exact h1));(case aL=>(rw [ints_len,HDL.out];omega));intro v4 w4 ho4 hb4 hg4 hat4;rw [<- ints_append,<- HDC.out,ints_len] at ho4;have hcl:(codeB c d e ws i).length=m+e:=(by rw [HDC.out,List.length_append,HDL.out,corrOf_len e ds HE1.out]);rw [hcl] at ho4;obtain⟨q4,c4,hv4,hq4,hc4,⟨cs4,hbk4⟩,hby4,_⟩:=own_bytes ho4 (by omega);subst hv4;have HQ4:=Aside0.mk hq4;have HC4:=Aside0.mk hc4;have HBK4:=Aside0.mk hbk4;have HBY4:=Aside0.mk hby4;have HCL:=Aside0.mk hcl;have HB4:=Aside0.mk hb4;have HB4w:=Aside0.mk (HB.out.trans (hb4.mono HB.out.size));have HR4:=Aside0.mk (HR.out.below hb4 (Nat.le_refl _));have HI4:=Aside0.mk (Blk.below HI.out hb4 (Blk.lt HI.out));clear ho4 hb4 hg4 hat4 hq4 hc4 hbk4 hby4 hcl))
    | ((with_reducible refine gate_builtin (b:=.append) (xs:=#[.tmp 35,.tmp 46]) rfl ?_);at_builtin;go_loud (refine print_append (w0:=w) w.heap.size rfl (.tmp 35) (.tmp 46) 27 26 (.slice none 0 0) 24 rfl Tryz.underlying27 info26s rfl (by decide) _ ((List.range i).map fun k=>(.slice (some ⟨qs k,0,none⟩) (codeB c d e ws k).length (cs k):Value)) (.slice (some ⟨q4,0,none⟩) (m+e) c4) rfl rfl rfl ?bO HB4w.out HB4w.out.size ?bL ?_;(case bO=>(rw [List.length_map,List.length_range];exact HR4.out.own));(case bL=>(rw [List.length_map,List.length_range];omega));intro v5 w5 ho5 hb5 hg5 hat5;rw [List.length_append,List.length_map,List.length_range,List.length_singleton] at ho5;have HR5:=Aside0.mk (HR4.out.step (Nat.le_trans HB.out.size HQ4.out) (by rw [HCL.out];exact HC4.out) HBK4.out HBY4.out (by rw [HCL.out];exact ho5) hg5);have HB5:=Aside0.mk hb5;have HI5:=Aside0.mk (show IBlk w5 gs (sizesOf c d n) from (hg5.block gs (Blk.lt HI4.out) (own_ne HR4.out.own HI4.out (by decide))).trans HI4.out);clear ho5 hb5 hg5 hat5)))
   trace_state
   go_roundw
   case rel=>exact⟨i+1,o+m,_,_,by go_num,by go_num,by omega,hmn,HNX,HR5,HI5,HB5⟩
   case measure=>simp [intOf]<;>omega
  ·have:i=n:=by omega
   subst this
   go_wp2
   go_ret
   exact⟨_,qs,cs,rfl,HR.out,HB.out⟩
end Go.Proofs.YtgccjgpdjkhpdaaGreat.B
namespace Go.Proofs.YtgccjgpdjkhpdaaGreat.B
open Go.RowKit Go.Proofs.YtgccjgpdjkhpdaaGreatW.PrintWords Go.Proofs.YtgccjgpdjkhpdaaGreatW.PrintLast Go.Proofs.YtgccjgpdjkhpdaaGreatW.PrintMore
set_option linter.unusedVariables false
set_option linter.unusedSimpArgs false
section
variable (c d n:Nat) (code:Nat->Nat->Nat)
def mixA (i k:Nat):List Nat:=((List.range i).flatMap fun i=>(List.range n).flatMap fun k=>if i<dl c d k then [code k i] else [])++(List.range k).flatMap fun k=>if i<dl c d k then [code k i] else []
def mixB (i k:Nat):List Nat:=((List.range i).flatMap fun i=>(List.range n).map fun k=>code k (dl c d k+i))++(List.range k).map fun k=>code k (dl c d k+i)
theorem mixA_row (i:Nat):mixA c d n code i n=mixA c d n code (i+1) 0:=by
 unfold mixA
 rw [List.range_succ,List.flatMap_append,List.flatMap_cons,List.flatMap_nil,List.append_nil,List.range_zero,List.flatMap_nil,List.append_nil]
theorem mixA_yes (i k:Nat)(h:i<dl c d k):mixA c d n code i (k+1)=mixA c d n code i k++[code k i]:=by
 unfold mixA
 rw [List.range_succ,List.flatMap_append,List.flatMap_cons,List.flatMap_nil,List.append_nil,if_pos h,List.append_assoc]
theorem mixA_no (i k:Nat)(h:¬ i<dl c d k):mixA c d n code i (k+1)=mixA c d n code i k:=by
 unfold mixA
 rw [List.range_succ,List.flatMap_append,List.flatMap_cons,List.flatMap_nil,List.append_nil,if_neg h,List.append_nil]
theorem mixB_zero:mixB c d n code 0 0=[]:=rfl
theorem mixB_row (i:Nat):mixB c d n code i n=mixB c d n code (i+1) 0:=by
 unfold mixB
 rw [List.range_succ (n:=i),List.flatMap_append,List.flatMap_cons,List.flatMap_nil,List.append_nil,List.range_zero,List.map_nil,List.append_nil]
theorem mixB_next (i k:Nat):mixB c d n code i (k+1)=mixB c d n code i k++[code k (dl c d k+i)]:=by
 unfold mixB
 rw [List.range_succ (n:=k),List.map_append,List.map_cons,List.map_nil,List.append_assoc]
end
theorem mix_all (c d c2 e:Nat)(code:Nat->Nat->Nat):mixA c d (c+c2) code (d+1) 0++mixB c d (c+c2) code e 0=mixedW c d c2 e code:=by
 unfold mixA mixB mixedW
 simp only [List.range_zero,List.flatMap_nil,List.map_nil,List.append_nil]
theorem own_mono {w:World}{base base' n size:Nat}{e:TypeId}{v:Value}{xs:List Value}(h:w.ownsRow base e size v n xs)(hb:base'<=base):w.ownsRow base' e size v n xs:=by
 obtain⟨h1,h2⟩:=h
 refine⟨h1,?_⟩
 rcases h2 with h2 | ⟨g,c,cs,k1,k2,k3⟩
 ·exact .inl h2
 ·exact .inr ⟨g,c,cs,k1,Nat.le_trans hb k2,k3⟩
theorem BlkRows.open {w:World}{B:Nat}{vo:Value}{n:Nat}{code:Nat->List Nat}{qs cs:Nat->Nat}(h:BlkRows w B vo n code qs cs)(h0:0<n) :
  ∃ q c,vo=.slice (some ⟨q,0,none⟩) n c/\q<w.heap.size/\n<=c/\∀ k,k<n->w.cell? ⟨q,k,none⟩=some (.slice (some ⟨qs k,0,none⟩) (code k).length (cs k)):=by
 obtain⟨h1,h2⟩:=h.own
 rcases h2 with⟨_,h3⟩ | ⟨q,c,ys,rfl,hb,hh,hc,hm,hs,ht⟩
 ·omega
 ·refine⟨q,c,rfl,Blk.lt hh,hc,fun k hk=>?_⟩
  rw [Blk.cell hh k]
  have h5:(ys.toList.take n)[k]? = ((List.range n).map fun k=>(.slice (some ⟨qs k,0,none⟩) (code k).length (cs k):Value))[k]?:=by rw [Nat.mul_one] at ht;rw [ht]
  rw [List.getElem?_take_of_lt hk,List.getElem?_map,List.getElem?_range hk] at h5
  rw [<- Array.getElem?_toList,h5]
  rfl
theorem ints_one (x:Nat):ints [x]=[(x:Int)]:=rfl
set_option maxHeartbeats 4000000 in
set_option maxRecDepth 8000 in
theorem mixed26 (w:World)(v l B:Nat)(vo:Value)(ws:List Nat)(qs cs:Nat->Nat)(hv:1<=v/\v<=40)(hl:l<4)(hR:BlkRows w B vo (lvC v l+lvC2 v l) (codeB (lvC v l) (lvD v l) (lvE v l) ws) qs cs)(hr:ws.length=roomD v l)(hw:AllLt 8 ws) :
  Calls Tryz.prog 26 #[vo,.int .i64 (v:Int),.int .i64 (l:Int)] w fun e w'=>∃ v',e=.returned v'/\w'.ownsRow w.heap.size 5 1 v' (roomN v/8) (nums .u8 (ints (mixedW (lvC v l) (lvD v l) (lvC2 v l) (lvE v l) fun k i=>(codeB (lvC v l) (lvD v l) (lvE v l) ws k).getD i 0)))/\Below w.heap.size w w':=by
 have k1:=corr55 w v l hv hl
 have K2:=Aside0.mk (fun W=>sizes62 W v l hv hl)
 have L:=lay_at v l hv hl
 have hml:=mixed_len (lvC v l) (lvD v l) (lvC2 v l) (lvE v l) (fun k i=>(codeB (lvC v l) (lvD v l) (lvE v l) ws k).getD i 0)
 rw [L.tot] at hml
 have hall:=mix_all (lvC v l) (lvD v l) (lvC2 v l) (lvE v l) (fun k i=>(codeB (lvC v l) (lvD v l) (lvE v l) ws k).getD i 0)
 have hc1:=L.c1
 have hcc:=L.cc
 have he1:=L.e1
 have he2:=L.e2
 have hd1:=L.d1
 have hd2:=L.d2
 have hend:=offB_end (lvC v l) (lvD v l) (lvC2 v l)
 unfold roomD at hr
 rw [<- hend] at hr
 obtain⟨e,he⟩:∃ e,lvE v l=e:=⟨_,rfl⟩
 obtain⟨c,hcv⟩:∃ c,lvC v l=c:=⟨_,rfl⟩
 obtain⟨d,hd⟩:∃ d,lvD v l=d:=⟨_,rfl⟩
 obtain⟨c2,hc2⟩:∃ c2,lvC2 v l=c2:=⟨_,rfl⟩
 rw [hcv,hc2] at hcc
 rw [he,hcv,hc2] at k1
 rw [hcv,hd,hc2] at K2 hr
 rw [he] at he1 he2
 rw [hcv] at hc1
 rw [hd] at hd1 hd2
 rw [hcv,hd,hc2,he] at hR hml hall ⊢
 obtain⟨n,hnn⟩:∃ n,c+c2=n:=⟨_,rfl⟩
 rw [hnn] at k1 K2 hr hcc hR hall
 have hn0:0<n:=by omega
 obtain⟨qb,cb,hvo,hqb,hcb,hcell⟩:=hR.open hn0
 subst hvo
 obtain⟨code,hcode⟩:∃ code:Nat->Nat->Nat,code=fun k i=>(codeB c d e ws k).getD i 0:=⟨_,rfl⟩
 rw [<- hcode] at hml hall ⊢
 have hblk:∀ k,k<n->(codeB c d e ws k).length=dl c d k+e/\qs k<w.heap.size/\∀ x,x<dl c d k+e->w.cell? ⟨qs k,x,none⟩=some (.int .u8 ((code k x:Nat):Int)):=fun k hk=>by
  obtain⟨_,h2,⟨ys,h3⟩,h4⟩:=hR.blk k hk
  have hlen:(codeB c d e ws k).length=dl c d k+e:=by
   unfold codeB
   have hm:=offB_mono c d (k+1) (n-(k+1))
   rw [show k+1+(n-(k+1))=n by omega,offB_succ] at hm
   rw [List.length_append,corrOf_len e _ he1,segB_len c d ws k (by omega)]
  refine⟨hlen,h3.lt,fun x hx=>?_⟩
  have:=h4 x (by omega)
  rw [Nat.zero_add] at this
  rw [this,hcode]
 have h8:∀ k x,code k x<256:=fun k x=>by rw [hcode];exact getD_lt (codeB_lt c d e ws k hw) x
 have HB_:=Aside0.mk hblk
 have H8:=Aside0.mk h8
 have HC:=Aside0.mk hcell
 have HQB:=Aside0.mk hqb
 have HML:=Aside0.mk hml
 have HALL:=Aside0.mk hall
 have HN0:=Aside0.mk hn0
 have hdl0:dl c d 0=d:=by unfold dl;rw [if_pos (by omega)]
 have HDL0:=Aside0.mk hdl0
 have HDM:=Aside0.mk (show ∀ k,dl c d k<=d+1 from fun k=>by unfold dl;split<;>omega)
 have HE2:=Aside0.mk he2
 have HLK:∀ k,k<n->(codeB c d e ws k).length=dl c d k+e:=fun k hk=>(hblk k hk).1
 have HLL:=Aside0.mk HLK
 clear L hml hall hend hr he hcv hd hc2 hR hcell hblk h8 hcode hqb hw hc1 hdl0 he1 HLK hnn
 go_enter Tryz.func26,Tryz.ntmps26
 go_wp2_with (first | (go_at_call 55;refine k1.mono ?_;rintro e0 w1 ⟨rfl,hb1⟩;have HB1:=Aside0.mk hb1;clear hb1) | (go_at_call 62;refine (K2.out _).mono ?_;rintro e0 w2 ⟨gs,rfl,hgs,hI,hb2⟩;have HB2:=Aside0.mk (HB1.out.trans (hb2.mono HB1.out.size));have HI:=Aside0.mk hI;have HGS:=Aside0.mk (Blk.lt hI);clear hgs hb2 hI))
 clear k1
 have hW2:=HB2.out.size
 have HW2:=Aside0.mk hW2
 have HRD:=Aside0.mk (show ∀ W,Below w2.heap.size w2 W->(∀ k,k<n->W.cell? ⟨qb,k,none⟩=some (.slice (some ⟨qs k,0,none⟩) (codeB c d e ws k).length (cs k)))/\(∀ k,k<n->W.cell? ⟨gs,k,none⟩=some (.int .i64 ((dl c d k:Nat):Int)))/\(∀ k x,k<n->x<dl c d k+e->W.cell? ⟨qs k,x,none⟩=some (.int .u8 ((code k x:Nat):Int))) from fun W hW=>by
  have hb:Below w.heap.size w W:=HB2.out.trans (hW.mono HB2.out.size)
  refine⟨fun k hk=>(hb.cell (p:=⟨qb,k,none⟩) HQB.out).trans (HC.out k hk),fun k hk=>?_,fun k x hk hx=>(hb.cell (p:=⟨qs k,x,none⟩) (HB_.out k hk).2.1).trans ((HB_.out k hk).2.2 x hx)⟩
  have:=(IBlk.cell (Blk.below HI.out hW HGS.out) k (by rw [sizesOf_len];exact hk))
  rwa [sizesOf_get c d n k hk] at this)
 clear hW2
 go_loopw [10,11] (fun vo vi wr=>∃ (i m cm:Nat) (A:Option Addr),vi=.int .i64 (i:Int)/\vo=.slice A m cm/\i<=d+1/\m<=100*i/\Aside0 (m=(mixA c d n code i 0).length)/\Aside0 (wr.ownsRow w2.heap.size 5 1 (.slice A m cm) m (nums .u8 (ints (mixA c d n code i 0))))/\Aside0 (Below w2.heap.size w2 wr)) (fun _ vi _=>(d+1-intOf vi).toNat)
 case atStart=>exact⟨0,0,0,none,rfl,rfl,by omega,by omega,⟨rfl⟩,⟨⟨rfl,.inl ⟨rfl,rfl⟩⟩⟩,⟨Below.refl _ _⟩⟩
 case round=>
  obtain⟨i,m,cm,A,rfl,rfl,hi,hm,HM,HO,HB⟩:=hrel
  have r0:=(HRD.out _ HB.out).2.1 0 HN0.out
  rw [HDL0.out] at r0
  have hn0i:(0:Int)<(n:Int):=by omega
  by_cases hid:i<=d
  ·have hidi:(i:Int)<=(d:Int):=by omega
   go_wp2
   go_loopw [10,35] (fun vo vk wr=>∃ (k m cm:Nat) (A:Option Addr),vk=.int .i64 (k:Int)/\vo=.slice A m cm/\k<=n/\m<=100*i+k/\Aside0 (m=(mixA c d n code i k).length)/\Aside0 (wr.ownsRow w2.heap.size 5 1 (.slice A m cm) m (nums .u8 (ints (mixA c d n code i k))))/\Aside0 (Below w2.heap.size w2 wr)) (fun _ vk _=>(n-intOf vk).toNat)
   case atStart=>exact⟨0,m,cm,A,rfl,rfl,by omega,by omega,HM,HO,HB⟩
   case round=>
    clear HM HO HB r0
    obtain⟨k,m,cm,A,rfl,rfl,hk,hm,HM,HO,HB⟩:=hrel
    by_cases hkn:k<n
    ·obtain⟨R1,R2,R3⟩:=HRD.out _ HB.out
     have r1:=R1 k hkn
     have r2:=R2 k hkn
     obtain⟨L,hL⟩:∃ L,(codeB c d e ws k).length=L:=⟨_,rfl⟩
     have hLk:=HLL.out k hkn
     rw [hL] at r1 hLk
     obtain⟨D,hD⟩:∃ D,dl c d k=D:=⟨_,rfl⟩
     have hD1:=HDM.out k
     rw [hD] at r2 hLk hD1
     obtain⟨qk,hqk⟩:∃ qk,qs k=qk:=⟨_,rfl⟩
     rw [hqk] at r1
     by_cases hiD:i<D
     ·obtain⟨x,hx⟩:∃ x,code k i=x:=⟨_,rfl⟩
      have hx8:x<256:=by rw [<- hx];exact H8.out k i
      have r3:=R3 k i hkn (by rw [hD];omega)
      rw [hx,hqk] at r3
      have hnx:=mixA_yes c d n code i k (by rw [hD];exact hiD)
      rw [hx] at hnx
      have HNX:=Aside0.mk hnx.symm
      have HML6:=Aside0.mk (show m+1=(mixA c d n code i (k+1)).length by rw [hnx,List.length_append,<- HM.out];rfl)
      clear R1 R2 R3 hL hD hqk hx hnx
      go_wp2_with (first | ((with_reducible refine gate_builtin (b:=.append) (xs:=#[.tmp 46,.tmp 51]) rfl ?_);at_builtin;refine print_append_num (w0:=w2) w2.heap.size rfl (.tmp 46) (.tmp 51) 26 5 .u8 1 rfl Tryz.underlying26 F.info5 (by decide) (.slice A m cm) (ints (mixA c d n code i k)) (x:Int) rfl rfl ?aO HB.out HB.out.size ?aL ?_;(case aO=>(rw [ints_len,<- HM.out];exact HO.out));(case aL=>(rw [ints_len,<- HM.out];omega));intro v6 w6 ho6 hb6 hg6 hat6;rw [<- ints_one,<- ints_append,HNX.out,ints_len,<- HML6.out] at ho6;obtain⟨A6,c6,hv6⟩:=own_slice ho6;subst hv6;have HO6:=Aside0.mk ho6;have HB6:=Aside0.mk hb6;clear ho6 hb6 hg6 hat6))
      go_roundw
      case rel=>exact⟨k+1,m+1,c6,A6,by go_num,rfl,by omega,by omega,HML6,HO6,HB6⟩
      case measure=>simp [intOf]<;>omega
     ·have hnx:=mixA_no c d n code i k (by rw [hD];exact hiD)
      have HM1:=Aside0.mk (show m=(mixA c d n code i (k+1)).length by rw [hnx];exact HM.out)
      have HO1:=Aside0.mk (show wr.ownsRow w2.heap.size 5 1 (.slice A m cm) m (nums .u8 (ints (mixA c d n code i (k+1)))) by rw [hnx];exact HO.out)
      clear R1 R2 R3 hL hD hqk hnx
      go_wp2
      go_roundw
      case rel=>exact⟨k+1,m,cm,A,by go_num,rfl,by omega,by omega,HM1,HO1,HB⟩
      case measure=>simp [intOf]<;>omega
    ·have:k=n:=by omega
     subst this
     go_wp2
     go_roundw
     case rel=>exact⟨i+1,m,cm,A,by go_num,rfl,by omega,by omega,⟨by rw [<- mixA_row];exact HM.out⟩,⟨by rw [<- mixA_row];exact HO.out⟩,HB⟩
     case measure=>simp [intOf]<;>omega
  ·have:i=d+1:=by omega
   subst this
   have hidi:¬ ((d+1:Nat):Int)<=(d:Int):=by omega
   obtain⟨preA,hpre⟩:∃ preA,mixA c d n code (d+1) 0=preA:=⟨_,rfl⟩
   rw [hpre] at HM HO
   rw [hpre] at HALL
   clear hpre
   obtain⟨di,hdi⟩:∃ di,d+1=di:=⟨_,rfl⟩
   rw [hdi] at hidi hm ⊢
   have hdi2:di<=201:=by omega
   clear hi hid hdi
   go_wp2
   clear r0
   go_loopw [10,14] (fun vo vi wr=>∃ (i m cm:Nat) (A:Option Addr),vi=.int .i64 (i:Int)/\vo=.slice A m cm/\i<=e/\m<=21000+100*i/\Aside0 (m=(preA++mixB c d n code i 0).length)/\Aside0 (wr.ownsRow w2.heap.size 5 1 (.slice A m cm) m (nums .u8 (ints (preA++mixB c d n code i 0))))/\Aside0 (Below w2.heap.size w2 wr)) (fun _ vi _=>(e-intOf vi).toNat)
   case atStart=>exact⟨0,m,cm,A,rfl,rfl,by omega,by omega,⟨by rw [mixB_zero,List.append_nil];exact HM.out⟩,⟨by rw [mixB_zero,List.append_nil];exact HO.out⟩,HB⟩
   case round=>
    clear HM HO HB hidi hm hdi2
    obtain⟨i,m,cm,A,rfl,rfl,hi,hm,HM,HO,HB⟩:=hrel
    by_cases hie:i<e
    ·go_wp2
     go_loopw [10,61] (fun vo vk wr=>∃ (k m cm:Nat) (A:Option Addr),vk=.int .i64 (k:Int)/\vo=.slice A m cm/\k<=n/\m<=21000+100*i+k/\Aside0 (m=(preA++mixB c d n code i k).length)/\Aside0 (wr.ownsRow w2.heap.size 5 1 (.slice A m cm) m (nums .u8 (ints (preA++mixB c d n code i k))))/\Aside0 (Below w2.heap.size w2 wr)) (fun _ vk _=>(n-intOf vk).toNat)
     case atStart=>exact⟨0,m,cm,A,rfl,rfl,by omega,by omega,HM,HO,HB⟩
     case round=>
      clear HM HO HB
      obtain⟨k,m,cm,A,rfl,rfl,hk,hm,HM,HO,HB⟩:=hrel
      by_cases hkn:k<n
      ·obtain⟨R1,R2,R3⟩:=HRD.out _ HB.out
       have r1:=R1 k hkn
       have r2:=R2 k hkn
       obtain⟨L,hL⟩:∃ L,(codeB c d e ws k).length=L:=⟨_,rfl⟩
       have hLk:=HLL.out k hkn
       rw [hL] at r1 hLk
       obtain⟨D,hD⟩:∃ D,dl c d k=D:=⟨_,rfl⟩
       have hD1:=HDM.out k
       rw [hD] at r2 hLk hD1
       obtain⟨qk,hqk⟩:∃ qk,qs k=qk:=⟨_,rfl⟩
       rw [hqk] at r1
       obtain⟨p,hp⟩:∃ p,D+i=p:=⟨_,rfl⟩
       have hpi:(D:Int)+(i:Int)=(p:Int):=by omega
       have hpL:p<L:=by omega
       obtain⟨x,hx⟩:∃ x,code k p=x:=⟨_,rfl⟩
       have hx8:x<256:=by rw [<- hx];exact H8.out k p
       have r3:=R3 k p hkn (by rw [hD];omega)
       rw [hx,hqk] at r3
       have hnx:=mixB_next c d n code i k
       rw [hD,hp,hx] at hnx
       have hnx2:preA++mixB c d n code i (k+1)=preA++mixB c d n code i k++[x]:=by rw [hnx,List.append_assoc]
       have HNX:=Aside0.mk hnx2.symm
       have HML6:=Aside0.mk (show m+1=(preA++mixB c d n code i (k+1)).length by rw [hnx2,List.length_append,<- HM.out];rfl)
       clear R1 R2 R3 hL hD hqk hx hnx hnx2 hp
       go_wp2_with (first | ((with_reducible refine gate_builtin (b:=.append) (xs:=#[.tmp 66,.tmp 76]) rfl ?_);at_builtin;refine print_append_num (w0:=w2) w2.heap.size rfl (.tmp 66) (.tmp 76) 26 5 .u8 1 rfl Tryz.underlying26 F.info5 (by decide) (.slice A m cm) (ints (preA++mixB c d n code i k)) (x:Int) rfl rfl ?aO HB.out HB.out.size ?aL ?_;(case aO=>(rw [ints_len,<- HM.out];exact HO.out));(case aL=>(rw [ints_len,<- HM.out];omega));intro v6 w6 ho6 hb6 hg6 hat6;rw [<- ints_one,<- ints_append,HNX.out,ints_len,<- HML6.out] at ho6;obtain⟨A6,c6,hv6⟩:=own_slice ho6;subst hv6;have HO6:=Aside0.mk ho6;have HB6:=Aside0.mk hb6;clear ho6 hb6 hg6 hat6))
       go_roundw
       case rel=>exact⟨k+1,m+1,c6,A6,by go_num,rfl,by omega,by omega,HML6,HO6,HB6⟩
       case measure=>simp [intOf]<;>omega
      ·have:k=n:=by omega
       subst this
       go_wp2
       go_roundw
       case rel=>exact⟨i+1,m,cm,A,by go_num,rfl,by omega,by omega,⟨by rw [<- mixB_row];exact HM.out⟩,⟨by rw [<- mixB_row];exact HO.out⟩,HB⟩
       case measure=>simp [intOf]<;>omega
    ·have:i=e:=by omega
     subst this
     go_wp2
     go_ret
     have h1:=HO.out
     have h2:=HM.out
     have h3:=HALL.out
     refine⟨_,rfl,?_,HB2.out.trans (HB.out.mono HW2.out)⟩
     rw [h3] at h1 h2
     rw [HML.out] at h2
     rw [h2] at h1 ⊢
     exact own_mono h1 HW2.out
end Go.Proofs.YtgccjgpdjkhpdaaGreat.B
namespace Go.Proofs.YtgccjgpdjkhpdaaGreat.B
open Go.RowKit Go.Proofs.YtgccjgpdjkhpdaaGreatW.PrintWords Go.Proofs.YtgccjgpdjkhpdaaGreatW.PrintLast Go.Proofs.YtgccjgpdjkhpdaaGreatW.PrintMore
set_option linter.unusedVariables false
set_option linter.unusedSimpArgs false
theorem stream_next (xs:List Nat)(i:Nat)(h:i<xs.length):streamBits (xs.take (i+1))=streamBits (xs.take i)++natBits (xs.getD i 0) 8:=by
 unfold streamBits
 rw [List.take_succ_eq_append_getElem h,List.flatMap_append,List.flatMap_cons,List.flatMap_nil,List.append_nil,List.getD_eq_getElem?_getD,List.getElem?_eq_getElem h]
 rfl
set_option maxHeartbeats 1000000 in
set_option maxRecDepth 8000 in
theorem bits29 (w:World)(q N cN:Nat)(xs:List Nat)(hD:ByteAt w q 0 xs)(hq:q<w.heap.size)(hn:xs.length=N)(hN:N<=100000)(hx:AllLt 8 xs) :
  Calls Tryz.prog 29 #[.slice (some ⟨q,0,none⟩) N cN] w fun e w'=>∃ v',e=.returned v'/\BOwn w' w.heap.size v' (streamBits xs)/\Below w.heap.size w w':=by
 have HD:=Aside0.mk hD
 have HQ:=Aside0.mk hq
 have HN:=Aside0.mk hn
 have HX:=Aside0.mk hx
 clear hD hq hn hx
 go_enter Tryz.func29,Tryz.ntmps29
 go_wp2
 go_loopw [3,8] (fun vo vi wr=>∃ i:Nat,vi=.int .i64 (i:Int)/\i<=N/\Aside0 (BOwn wr w.heap.size vo (streamBits (xs.take i)))/\Aside0 (Below w.heap.size w wr)) (fun _ vi _=>(N-intOf vi).toNat)
 case atStart=>exact⟨0,rfl,Nat.zero_le _,⟨⟨rfl,.inl ⟨rfl,rfl⟩⟩⟩,⟨Below.refl _ _⟩⟩
 case round=>
  obtain⟨i,rfl,hi,HO,HB⟩:=hrel
  by_cases hin:i<N
  ·obtain⟨x,hxx⟩:∃ x,xs.getD i 0=x:=⟨_,rfl⟩
   have hx8:x<256:=by rw [<- hxx];exact getD_lt HX.out i
   have r0:=(HD.out.below HB.out HQ.out) i (by rw [HN.out];exact hin)
   rw [Nat.zero_add,hxx] at r0
   have hnx:=stream_next xs i (by rw [HN.out];exact hin)
   rw [hxx] at hnx
   have kad:=qrAddI w wr w.heap.size x 8 _ _ (x:Int) 8 rfl rfl HO.out HB.out HB.out.size (by omega) (by decide) (by rw [streamBits_len,List.length_take];omega)
   rw [<- hnx] at kad
   clear hnx hxx
   go_wp2_with (go_at_call 66;with_reducible (refine kad.mono ?_);rintro e w2 ⟨v2,rfl,hO2,hB2,hG2⟩;have HO2:=Aside0.mk hO2;have HB2:=Aside0.mk hB2;clear hO2 hB2 hG2)
   go_roundw
   case rel=>exact⟨i+1,by go_num,by omega,HO2,HB2⟩
   case measure=>simp [intOf]<;>omega
  ·have:i=N:=by omega
   subst this
   go_wp2
   go_ret
   exact⟨_,rfl,by have:=HO.out;rwa [List.take_of_length_le (by rw [HN.out];omega)] at this,HB.out⟩
structure Brows (w:World)(B g n:Nat)(q cp:Nat->Nat)(cf:Nat->Nat->Bool):Prop where
 base:B<=g
 blk:∃ cells,Blk w g 45 cells/\cells.size=cp n/\cp n<=maxLen
 row:∀ r,r<n->w.cell? ⟨g,r,none⟩=some (.slice (some ⟨q r,0,none⟩) n (cp r))/\B<=q r/\n<=cp r/\(∃ cells,Blk w (q r) 4 cells)/\∀ c,c<n->w.cell? ⟨q r,c,none⟩=some (.bool (cf r c))
 inj:∀ r s,r<n->s<n->q r=q s->r=s
theorem Brows.below {w w':World}{B D g n:Nat}{q cp:Nat->Nat}{cf:Nat->Nat->Bool}(h:Brows w B g n q cp cf)(hb:Below D w w')(hD:w.heap.size<=D):Brows w' B g n q cp cf:=by
 obtain⟨h1,⟨cs,h2,hz⟩,h3,h4⟩:=h
 have hg:=Nat.lt_of_lt_of_le (Blk.lt h2) hD
 refine⟨h1,⟨cs,Blk.below h2 hb hg,hz⟩,fun r hr=>?_,h4⟩
 obtain⟨k1,k2,k3,⟨ys,k4⟩,k5⟩:=h3 r hr
 have hq:=Nat.lt_of_lt_of_le (Blk.lt k4) hD
 exact⟨(hb.cell (p:=⟨g,r,none⟩) hg).trans k1,k2,k3,⟨ys,Blk.below k4 hb hq⟩,fun c hc=>(hb.cell (p:=⟨q r,c,none⟩) hq).trans (k5 c hc)⟩
theorem Brows.set {w:World}{B g n:Nat}{q cp:Nat->Nat}{cf:Nat->Nat->Bool}(h:Brows w B g n q cp cf)(r c:Nat)(b:Bool)(hr:r<n)(hc:c<n) :
  Brows (w.setCell ⟨q r,c,none⟩ (.bool b)) B g n q cp (fun r' c'=>if r'=r/\c'=c then b else cf r' c'):=by
 obtain⟨h1,⟨cs,h2,hz⟩,h3,h4⟩:=h
 obtain⟨_,_,_,⟨yr,kr⟩,kc⟩:=h3 r hr
 have hgq:g≠q r:=blk_ne h2 kr (by decide)
 refine⟨h1,⟨cs,h2.far (p:=⟨q r,c,none⟩) hgq _,hz⟩,fun s hs=>?_,h4⟩
 obtain⟨k1,k2,k3,⟨ys,k4⟩,k5⟩:=h3 s hs
 refine⟨by rw [World.cell?_setCell_other _ _ _ _ (fun e=>hgq (congrArg Addr.block e).symm)];exact k1,k2,k3,?_,fun x hx=>?_⟩
 ·by_cases hsr:q s=q r
  ·obtain rfl:=h4 s r hs hr hsr
   exact⟨_,blk_set k4 c (.bool b)⟩
  ·exact⟨ys,k4.far (p:=⟨q r,c,none⟩) hsr _⟩
 ·by_cases hsr:s=r
  ·subst hsr
   by_cases hxc:x=c
   ·subst hxc
    rw [if_pos ⟨rfl,rfl⟩]
    exact World.cell?_setCell_same _ _ _ (k5 x hx)
   ·rw [if_neg (fun h=>hxc h.2),World.cell?_setCell_other _ _ _ _ (fun e=>hxc (congrArg Addr.off e).symm)]
    exact k5 x hx
  ·rw [if_neg (fun h=>hsr h.1),World.cell?_setCell_other _ _ _ _ (fun e=>hsr (h4 s r hs hr (congrArg Addr.block e).symm))]
   exact k5 x hx
theorem rd_row (n:Nat)(cf:Nat->Nat->Bool)(r:Nat)(hr:r<n):(rowsOfB n cf n)[r]? = some (rowOfB n cf r):=by
 unfold rowsOfB
 rw [List.getElem?_map,List.getElem?_range hr]
 rfl
theorem rows_open {w:World}{base:Nat}{ok:Nat->Prop}{v:Value}{n:Nat}{cf:Nat->Nat->Bool}(h:Kd.S (Kd.slice 4 Kd.bool) 45 w base ok v (rowsOfB n cf n))(h0:0<n) :
  ∃ g cap q cp,v=.slice (some ⟨g,0,none⟩) n cap/\(n<=cap/\cp n=cap)/\Brows w base g n q cp cf:=by
 obtain⟨f,h⟩:=h
 have hl:(rowsOfB n cf n).zipIdx.length=n:=by rw [List.length_zipIdx,rowsOfB_len]
 obtain⟨g,cap,hv,hb,hg,hcells⟩:=Kd.R_form h (by omega)
 rw [hl] at hv
 subst hv
 obtain⟨_,hnc,_⟩:=Kd.R_reads' h
 have hsz:∃ cells,Blk w g 45 cells/\cells.size=cap/\cap<=maxLen:=by
  obtain⟨_,inner,⟨_,ho⟩,_⟩:=h
  rcases ho with⟨hv,_⟩ | ⟨g',cap',cur,hv,_,hh,_,hm,hs,_⟩
  ·cases hv
  ·injection hv with e1 e2 e3
   injection e1 with e1
   injection e1 with e1
   subst e1 e3
   have hs':cur.size=cap*1:=hs
   exact⟨cur,hh,by omega,hm⟩
 have hex:∀ r,∃ qc:Nat×Nat,(¬ r<n->qc.2=cap)/\(r<n->w.cell? ⟨g,r,none⟩=some (.slice (some ⟨qc.1,0,none⟩) n qc.2)/\base<=qc.1/\n<=qc.2/\(∃ cells,Blk w qc.1 4 cells)/\(∀ c,c<n->w.cell? ⟨qc.1,c,none⟩=some (.bool (cf r c)))/\f qc.1=r):=fun r=>by
  by_cases hr:r<n
  ·obtain⟨c,hcl,hM,hcc,_⟩:=Kd.R_elem h (([]:List Bool),0) (r:Int) (by omega) (by omega)
   have hget:(rowsOfB n cf n).zipIdx.getD (r:Int).toNat (([]:List Bool),0)=(rowOfB n cf r,r):=by
    rw [Int.toNat_natCast,List.getD_eq_getElem?_getD,List.getElem?_zipIdx,rd_row n cf r hr]
    simp
   rw [hget] at hM
   obtain⟨v',rfl,hR⟩:=hM
   have hrl:(rowOfB n cf r).length=n:=by simp [rowOfB]
   obtain⟨q,cq,hv',hbq,hlq,ys,hys⟩:=Kd.R_form hR (by show 0<(rowOfB n cf r).length;omega)
   rw [show ((rowOfB n cf r,r).1).length=n from hrl] at hv'
   subst hv'
   obtain⟨_,hncq,_⟩:=Kd.R_reads' hR
   refine⟨(q,cq),fun h=>absurd hr h,fun _=>⟨?_,hbq,hncq,⟨ys,hys⟩,fun c hc=>?_,?_⟩⟩
   ·have:=hcc 0 _ rfl
    have e:(r:Int).toNat*(Kd.tag f (Kd.slice 4 Kd.bool)).sz+0=r:=by show (r:Int).toNat*1+0=r;omega
    rw [e] at this
    exact this
   ·obtain⟨c2,hcl2,hM2,hcc2,_⟩:=Kd.R_elem hR false (c:Int) (by omega) (by omega)
    have hget2:(rowOfB n cf r).getD (c:Int).toNat false=cf r c:=by
     rw [Int.toNat_natCast,List.getD_eq_getElem?_getD]
     simp [rowOfB,List.getElem?_map,List.getElem?_range hc]
    rw [hget2] at hM2
    have hM3:c2=[.bool (cf r c)]:=hM2
    have:=hcc2 0 (.bool (cf r c)) (by rw [hM3];rfl)
    have e:(c:Int).toNat*Kd.bool.sz+0=c:=by show (c:Int).toNat*1+0=c;omega
    rw [e] at this
    exact this
   ·have:=hR.1 q rfl
    exact this.2
  ·exact⟨(0,cap),fun _=>rfl,fun h=>absurd h hr⟩
 refine⟨g,cap,fun r=>(hex r).choose.1,fun r=>(hex r).choose.2,rfl,⟨hnc,(hex n).choose_spec.1 (Nat.lt_irrefl n)⟩,⟨hb,by rw [(hex n).choose_spec.1 (Nat.lt_irrefl n)];exact hsz,fun r hr=>?_,fun r s hr hs he=>?_⟩⟩
 ·obtain⟨k1,k2,k3,k4,k5,_⟩:=(hex r).choose_spec.2 hr
  exact⟨k1,k2,k3,k4,k5⟩
 ·have k1:=((hex r).choose_spec.2 hr).2.2.2.2.2
  have k2:=((hex s).choose_spec.2 hs).2.2.2.2.2
  rw [<- k1,<- k2,he]
end Go.Proofs.YtgccjgpdjkhpdaaGreat.B
