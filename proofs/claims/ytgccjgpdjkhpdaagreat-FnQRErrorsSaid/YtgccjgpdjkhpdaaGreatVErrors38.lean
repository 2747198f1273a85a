import Derived.Test.YtgccjgpdjkhpdaaGreatVErrors33
open Go.Proofs.YtgccjgpdjkhpdaaGreatW.PrintWords.Aside0 renaming mk→Mw
open Nat renaming lt_irrefl→Mx
open List renaming length_cons→My
/-! Own texts of this claim, part 38. -/
namespace Go.Proofs.YtgccjgpdjkhpdaaGreat.B
open Go.RowKit Go.Proofs.YtgccjgpdjkhpdaaGreatW.PrintWords Go.Proofs.YtgccjgpdjkhpdaaGreatW.PrintLast Go.Proofs.YtgccjgpdjkhpdaaGreatW.PrintMore
set_option linter.unusedVariables false
set_option linter.unusedSimpArgs false
def ir (v k i:Nat):Option (Nat×Nat) :=
 if k=0 then if i<6 then some (i,8) else none
 else if k=1 then if i<8 then some (8,17+4*v-1-i) else none
 else if i<18/\7<=v then some (if k=2 then (i/3,17+4*v-11+i%3) else (17+4*v-11+i%3,i/3)) else none
structure gF (v:Nat)(cf cf':Nat->Nat->Bool)(Ls:Nat->List (Nat×Nat)):Prop where
 place:∀ k p,p∈Ls k->∃ i,ir v k i=some p
 same:∀ r c,(∀ k,k<4->(r,c)∉Ls k)->cf' r c=cf r c
theorem gF.refl (v:Nat)(cf:Nat->Nat->Bool):gF v cf cf fun _=>[]:=⟨fun k p h=>by simp at h,fun _ _ _=>rfl⟩
theorem gF.set {v k i r c:Nat}{cf cf':Nat->Nat->Bool}{Ls:Nat->List (Nat×Nat)}(h:gF v cf cf' Ls)(hp:ir v k i=some (r,c))(hk:k<4)(b:Bool) :
  gF v cf (fun r' c'=>if r'=r/\c'=c then b else cf' r' c') (fun x=>if x=k then (r,c) :: Ls k else Ls x):=by
 refine⟨fun x p hx=>?_,fun r' c' hn=>?_⟩;rotate_left
 ·have h1:¬ (r'=r/\c'=c):=by
   rintro⟨rfl,rfl⟩;exact hn k hk (by simp)
  rw [if_neg h1];refine h.same r' c' fun x hx hm=>hn x hx ?_
  by_cases hxk:x=k;rotate_left
  ·simp [hxk,hm]
  subst hxk;simp [hm]
 by_cases hxk:x=k;rotate_left
 ·simp only [if_neg hxk] at hx;exact h.place x p hx
 subst hxk;simp only [if_pos,List.mem_cons] at hx;rcases hx with rfl | hx
 ·exact⟨i,hp⟩
 exact h.place x p hx
theorem cP.drew {w:World}{B g n:Nat}{q cp:Nat->Nat}{cf:Nat->Nat->Bool}(h:cP w B g n q cp cf):cP w.drew B g n q cp cf:=⟨h.base,h.blk,h.row,h.inj⟩
def lu (a:Nat->Nat->Nat):Array Value:=#[.int .u8 (a 0 0:Int),.int .u8 (a 0 1:Int),.int .u8 (a 0 2:Int),.int .u8 (a 1 0:Int),.int .u8 (a 1 1:Int),.int .u8 (a 1 2:Int),.int .u8 (a 2 0:Int),.int .u8 (a 2 1:Int),.int .u8 (a 2 2:Int),.int .u8 (a 3 0:Int),.int .u8 (a 3 1:Int),.int .u8 (a 3 2:Int)]
def mN (a:Nat->Nat->Nat):Value:=.agg (lu a)
theorem rX (a:Nat->Nat->Nat)(k:Nat)(hk:k<4)(j:Nat)(hj:j<3):(lu a)[k*3+j]? = some (.int .u8 (a k j:Int)):=by
 match k,hk,j,hj with
 | 0,_,0,_ | 0,_,1,_ | 0,_,2,_ | 1,_,0,_ | 1,_,1,_ | 1,_,2,_ | 2,_,0,_ | 2,_,1,_ | 2,_,2,_ | 3,_,0,_ | 3,_,1,_ | 3,_,2,_=>rfl
theorem JN (a:Nat->Nat->Nat)(k j:Nat)(hj:j<3)(w:World):(Instr.index 63 (.agg #[.int .u8 (a k 0:Int),.int .u8 (a k 1:Int),.int .u8 (a k 2:Int)]) (.int .i64 (j:Int))).run Tryz.prog w=.ok (.int .u8 (a k j:Int)) w:=by
 obtain rfl | rfl | rfl:j=0\/j=1\/j=2:=by omega
 all_goals kernel_rfl
set_option maxHeartbeats 4000000 in
set_option maxRecDepth 100000 in
theorem JO (w:World)(B g N cap v:Nat)(q cp:Nat->Nat)(cf:Nat->Nat->Bool)(a:Nat->Nat->Nat)(hN:17+4*v=N)(hv:1<=v/\v<=40)(hbr:cP w B g N q cp cf)(hc:N<=cap)(ha:∀ k j,a k j<256)(hB:B<=w.heap.size) :
  Calls Tryz.prog 34 #[.slice (some ⟨g,0,none⟩) N cap,.int .i64 (v:Int),mN a] w fun e w'=>∃ cf' Ls,e=.returned (.tuple #[])/\cP w' B g N q cp cf'/\gF v cf cf' Ls/\(∀ k,(Ls k).length<=3)/\Below B w w':=by
 have HA:=Mw ha;obtain⟨w0,hw0⟩:∃ w0,w0=w.alloc (.cells (lu a) 64):=⟨_,rfl⟩;have HW0:=Mw hw0;have HB0:=Mw (show Below w.heap.size w w0 by rw [hw0];exact ai (Below.refl _ _) _)
 have HK0:=Mw (show Blk w0 w.heap.size 64 (lu a) by rw [hw0];exact Blk.new _ _ _)
 have HR0:=Mw (hbr.below HB0.out (Nat.le_refl _));have HBW:=Mw hB;obtain⟨C,hC⟩:∃ C,lu a=C:=⟨_,rfl⟩;have HC:=Mw hC;unfold mN;rw [hC];rw [hC] at HW0 HK0;clear hbr ha hw0 hC
 go_enter Tryz.func34,Tryz.ntmps34
 go_wp2_with fail
 rw [<- HW0.out]
 go_loopw [13] (fun vk wr=>∃ (k:Nat) (cf':Nat->Nat->Bool) (Ls:Nat->List (Nat×Nat)),vk=.int .i64 (k:Int)/\k<=4/\Aside0 (cP wr B g N q cp cf')/\Aside0 (gF v cf cf' Ls)/\Aside0 (∀ x,(Ls x).length<=if x<k then 3 else 0)/\Aside0 (Blk wr w.heap.size 64 C)/\Aside0 (Below B w wr)) (fun vk _=>(4-intOf vk).toNat)
 case atStart=>exact⟨0,cf,_,rfl,by omega,HR0,⟨gF.refl v cf⟩,⟨fun x=>by simp⟩,HK0,⟨HB0.out.mono hB⟩⟩
 case round=>
  clear HR0 HK0 HB0;obtain⟨k,cf',Ls,rfl,hk,HR,HT,HL,HK,HB⟩:=hrel;by_cases hk4:k<4;rotate_left
  ·have:k=4:=by omega
   subst this
   go_wp2_with fail
   go_end0
   exact⟨cf',Ls,rfl,HR.out,HT.out,fun x=>by have:=HL.out x;split at this<;>omega,HB.out⟩
  have hk4':(k:Int)<4:=by omega
  have c0:=HK.out.cell (k*3);have c1:=HK.out.cell (k*3+1);have c2:=HK.out.cell (k*3+2);rw [<- HC.out,show k*3=k*3+0 from rfl,rX a k hk4 0 (by omega),Nat.add_zero] at c0;rw [<- HC.out,rX a k hk4 1 (by omega)] at c1;rw [<- HC.out,rX a k hk4 2 (by omega)] at c2
  go_wp2_with fail
  clear c0 c1 c2
  go_loopw [19] (fun vj wr=>∃ (j:Nat) (cf':Nat->Nat->Bool) (Ls:Nat->List (Nat×Nat)),vj=.int .i64 (j:Int)/\j<=3/\Aside0 (cP wr B g N q cp cf')/\Aside0 (gF v cf cf' Ls)/\Aside0 (∀ x,(Ls x).length<=if x<k then 3 else if x=k then j else 0)/\Aside0 (Blk wr w.heap.size 64 C)/\Aside0 (Below B w wr)) (fun vj _=>(3-intOf vj).toNat)
  case atStart=>exact⟨0,cf',Ls,rfl,by omega,HR,HT,⟨fun x=>by have:=HL.out x;split at this<;>(try split)<;>omega⟩,HK,HB⟩
  case round=>
   clear HR HT HL HK HB;obtain⟨j,cf',Ls,rfl,hj,HR,HT,HL,HK,HB⟩:=hrel;by_cases hj3:j<3;rotate_left
   ·have:j=3:=by omega
    subst this
    go_wp2_with fail
    go_roundw
    case rel=>exact⟨k+1,cf',Ls,by go_num,by omega,HR,HT,⟨fun x=>by have:=HL.out x;split at this<;>(try split at this)<;>split<;>omega⟩,HK,HB⟩
    case measure=>simp [intOf]<;>omega
   have hj3':(j:Int)<3:=by omega
   obtain⟨i,hi⟩:∃ i,a k j=i:=⟨_,rfl⟩;have hi8:i<256:=by rw [<- hi];exact HA.out k j
   have ex:=JN a k j hj3;rw [hi] at ex;clear hi;rcases (show k=0\/k=1\/k=2\/k=3 by omega) with rfl | rfl | rfl | rfl
   ·by_cases h6:i<6;rotate_left
    ·have h6i:¬ (i:Int)<6:=by omega
     go_wp2_with fail
     go_roundw
     case rel=>exact⟨j+1,cf',Ls,by go_num,by omega,HR,HT,⟨fun x=>by have:=HL.out x;split at this<;>(try split at this)<;>(try split)<;>(try split)<;>omega⟩,HK,HB⟩
     case measure=>simp [intOf]<;>omega
    have h6i:(i:Int)<6:=by omega
    have hN8:(8:Int)<(N:Int):=by omega
    have hiN:(i:Int)<(N:Int):=by omega
    have hp:ir v 0 i=some (i,8):=by unfold ir;rw [if_pos rfl,if_pos h6]
    have hrN:i<N:=by omega
    have hcN:8<N:=by omega
    obtain⟨k1,_,_,⟨ys,k4⟩,k5⟩:=HR.out.row i hrN;have k5c:=k5 8 hcN;have k6:=k4.frozen 8;obtain⟨q1,hq1⟩:∃ q1,q i=q1:=⟨_,rfl⟩;rw [hq1] at k1 k5c k6;obtain⟨b0,hb0⟩:∃ b0,cf' i 8=b0:=⟨_,rfl⟩;rw [hb0] at k5c;have hcp:N<=cp i:=(HR.out.row i hrN).2.2.1;clear k5
    go_wp2_with fail
    go_region
    obtain⟨w9,hw9⟩:∃ w9,w9=(wr.setCell ⟨q1,8,none⟩ (.bool (!b0))).drew:=⟨_,rfl⟩;rw [<- hw9];have HW9:=Mw hw9;have HQ:=Mw hq1;have HP:=Mw hp;have HRN:=Mw hrN;have HCN:=Mw hcN;have HK4:=Mw k4;clear k1 k5c k6 hw9 hq1 hb0 hp hrN hcN k4
    go_wp2
    go_roundw
    case rel=>
     have h1:cP w9 B g N q cp (fun r' c'=>if r'=i/\c'=8 then !b0 else cf' r' c'):=by
      rw [HW9.out,<- HQ.out];exact (HR.out.set i 8 (!b0) HRN.out HCN.out).drew
     have hT9:af wr w9 q1:=by
      rw [HW9.out];have hT:=af.set wr q1 8 (.bool (!b0));exact⟨hT.os,hT.tape,hT.output,hT.size,hT.block⟩
     refine⟨j+1,_,_,by go_num,by omega,⟨h1⟩,⟨HT.out.set HP.out (by decide) _⟩,⟨fun x=>?_⟩,⟨hT9.blk HK.out ?_⟩,⟨HB.out.trans (hT9.below ?_)⟩⟩
     ·have:=HL.out x;have h2:=HL.out 0;simp only [Mx,if_false,if_true] at h2;by_cases hx:x=0;rotate_left
      ·rw [if_neg hx];rw [if_neg hx] at this ⊢;exact this
      subst hx;simp only [if_true,My,Mx,if_false];omega
     rotate_left
     ·rw [<- HQ.out];exact (HR.out.row i HRN.out).2.1
     rw [<- HQ.out];exact bd HK.out HK4.out (by decide)
    case measure=>simp [intOf]<;>omega
   ·by_cases h6:i<8;rotate_left
    ·have h6i:¬ (i:Int)<8:=by omega
     go_wp2_with fail
     go_roundw
     case rel=>exact⟨j+1,cf',Ls,by go_num,by omega,HR,HT,⟨fun x=>by have:=HL.out x;split at this<;>(try split at this)<;>(try split)<;>(try split)<;>omega⟩,HK,HB⟩
     case measure=>simp [intOf]<;>omega
    have h6i:(i:Int)<8:=by omega
    have hN8:(8:Int)<(N:Int):=by omega
    obtain⟨c,hcc⟩:∃ c,17+4*v-1-i=c:=⟨_,rfl⟩;have hci:(N:Int)-1-(i:Int)=(c:Int):=by omega
    have hcb:(c:Int)<(N:Int):=by omega
    have hp:ir v 1 i=some (8,c):=by unfold ir;rw [if_neg (by decide),if_pos rfl,if_pos h6,hcc]
    have hrN:8<N:=by omega
    have hcN:c<N:=by omega
    obtain⟨k1,_,_,⟨ys,k4⟩,k5⟩:=HR.out.row 8 hrN;have k5c:=k5 c hcN;have k6:=k4.frozen c;obtain⟨q1,hq1⟩:∃ q1,q 8=q1:=⟨_,rfl⟩;rw [hq1] at k1 k5c k6;obtain⟨b0,hb0⟩:∃ b0,cf' 8 c=b0:=⟨_,rfl⟩;rw [hb0] at k5c;have hcp:N<=cp 8:=(HR.out.row 8 hrN).2.2.1;clear k5
    go_wp2_with fail
    go_region
    obtain⟨w9,hw9⟩:∃ w9,w9=(wr.setCell ⟨q1,c,none⟩ (.bool (!b0))).drew:=⟨_,rfl⟩;rw [<- hw9];have HW9:=Mw hw9;have HQ:=Mw hq1;have HP:=Mw hp;have HRN:=Mw hrN;have HCN:=Mw hcN;have HK4:=Mw k4;clear k1 k5c k6 hw9 hq1 hb0 hp hrN hcN k4
    go_wp2
    go_roundw
    case rel=>
     have h1:cP w9 B g N q cp (fun r' c'=>if r'=8/\c'=c then !b0 else cf' r' c'):=by
      rw [HW9.out,<- HQ.out];exact (HR.out.set 8 c (!b0) HRN.out HCN.out).drew
     have hT9:af wr w9 q1:=by
      rw [HW9.out];have hT:=af.set wr q1 c (.bool (!b0));exact⟨hT.os,hT.tape,hT.output,hT.size,hT.block⟩
     refine⟨j+1,_,_,by go_num,by omega,⟨h1⟩,⟨HT.out.set HP.out (by decide) _⟩,⟨fun x=>?_⟩,⟨hT9.blk HK.out ?_⟩,⟨HB.out.trans (hT9.below ?_)⟩⟩
     ·have:=HL.out x;have h2:=HL.out 1;simp only [Mx,if_false,if_true] at h2;by_cases hx:x=1;rotate_left
      ·rw [if_neg hx];rw [if_neg hx] at this ⊢;exact this
      subst hx;simp only [if_true,My,Mx,if_false];omega
     rotate_left
     ·rw [<- HQ.out];exact (HR.out.row 8 HRN.out).2.1
     rw [<- HQ.out];exact bd HK.out HK4.out (by decide)
    case measure=>simp [intOf]<;>omega
   ·by_cases h6:i<18/\7<=v;rotate_left
    ·by_cases h7:i<18;rotate_left
     ·have h6i:¬ (i:Int)<18:=by omega
      go_wp2_with fail
      go_roundw
      case rel=>exact⟨j+1,cf',Ls,by go_num,by omega,HR,HT,⟨fun x=>by have:=HL.out x;split at this<;>(try split at this)<;>(try split)<;>(try split)<;>omega⟩,HK,HB⟩
      case measure=>simp [intOf]<;>omega
     have h6i:(i:Int)<18:=by omega
     have h7v:¬ (7:Int)<=(v:Int):=by omega
     go_wp2_with fail
     go_roundw
     case rel=>exact⟨j+1,cf',Ls,by go_num,by omega,HR,HT,⟨fun x=>by have:=HL.out x;split at this<;>(try split at this)<;>(try split)<;>(try split)<;>omega⟩,HK,HB⟩
     case measure=>simp [intOf]<;>omega
    have h6i:(i:Int)<18:=by omega
    have h7v:(7:Int)<=(v:Int):=by omega
    obtain⟨r,hrr⟩:∃ r,i/3=r:=⟨_,rfl⟩;have hri:(i:Int)/3=(r:Int):=by omega
    obtain⟨m,hmm⟩:∃ m,i%3=m:=⟨_,rfl⟩;have hmi:(i:Int)%3=(m:Int):=by omega
    obtain⟨c,hcc⟩:∃ c,17+4*v-11+m=c:=⟨_,rfl⟩;have hci:(N:Int)-11+(m:Int)=(c:Int):=by omega
    have hrb:(r:Int)<(N:Int):=by omega
    have hcb:(c:Int)<(N:Int):=by omega
    have hp:ir v 2 i=some (r,c):=by unfold ir;rw [if_neg (by decide),if_neg (by decide),if_pos h6,if_pos rfl,hrr,hmm,hcc]
    have hrN:r<N:=by omega
    have hcN:c<N:=by omega
    obtain⟨k1,_,_,⟨ys,k4⟩,k5⟩:=HR.out.row r hrN;have k5c:=k5 c hcN;have k6:=k4.frozen c;obtain⟨q1,hq1⟩:∃ q1,q r=q1:=⟨_,rfl⟩;rw [hq1] at k1 k5c k6;obtain⟨b0,hb0⟩:∃ b0,cf' r c=b0:=⟨_,rfl⟩;rw [hb0] at k5c;have hcp:N<=cp r:=(HR.out.row r hrN).2.2.1;clear k5
    go_wp2_with fail
    go_region
    obtain⟨w9,hw9⟩:∃ w9,w9=(wr.setCell ⟨q1,c,none⟩ (.bool (!b0))).drew:=⟨_,rfl⟩;rw [<- hw9];have HW9:=Mw hw9;have HQ:=Mw hq1;have HP:=Mw hp;have HRN:=Mw hrN;have HCN:=Mw hcN;have HK4:=Mw k4;clear k1 k5c k6 hw9 hq1 hb0 hp hrN hcN k4
    go_wp2
    go_roundw
    case rel=>
     have h1:cP w9 B g N q cp (fun r' c'=>if r'=r/\c'=c then !b0 else cf' r' c'):=by
      rw [HW9.out,<- HQ.out];exact (HR.out.set r c (!b0) HRN.out HCN.out).drew
     have hT9:af wr w9 q1:=by
      rw [HW9.out];have hT:=af.set wr q1 c (.bool (!b0));exact⟨hT.os,hT.tape,hT.output,hT.size,hT.block⟩
     refine⟨j+1,_,_,by go_num,by omega,⟨h1⟩,⟨HT.out.set HP.out (by decide) _⟩,⟨fun x=>?_⟩,⟨hT9.blk HK.out ?_⟩,⟨HB.out.trans (hT9.below ?_)⟩⟩
     ·have:=HL.out x;have h2:=HL.out 2;simp only [Mx,if_false,if_true] at h2;by_cases hx:x=2;rotate_left
      ·rw [if_neg hx];rw [if_neg hx] at this ⊢;exact this
      subst hx;simp only [if_true,My,Mx,if_false];omega
     rotate_left
     ·rw [<- HQ.out];exact (HR.out.row r HRN.out).2.1
     rw [<- HQ.out];exact bd HK.out HK4.out (by decide)
    case measure=>simp [intOf]<;>omega
   by_cases h6:i<18/\7<=v;rotate_left
   ·by_cases h7:i<18;rotate_left
    ·have h6i:¬ (i:Int)<18:=by omega
     go_wp2_with fail
     go_roundw
     case rel=>exact⟨j+1,cf',Ls,by go_num,by omega,HR,HT,⟨fun x=>by have:=HL.out x;split at this<;>(try split at this)<;>(try split)<;>(try split)<;>omega⟩,HK,HB⟩
     case measure=>simp [intOf]<;>omega
    have h6i:(i:Int)<18:=by omega
    have h7v:¬ (7:Int)<=(v:Int):=by omega
    go_wp2_with fail
    go_roundw
    case rel=>exact⟨j+1,cf',Ls,by go_num,by omega,HR,HT,⟨fun x=>by have:=HL.out x;split at this<;>(try split at this)<;>(try split)<;>(try split)<;>omega⟩,HK,HB⟩
    case measure=>simp [intOf]<;>omega
   have h6i:(i:Int)<18:=by omega
   have h7v:(7:Int)<=(v:Int):=by omega
   obtain⟨r,hrr⟩:∃ r,i/3=r:=⟨_,rfl⟩;have hri:(i:Int)/3=(r:Int):=by omega
   obtain⟨m,hmm⟩:∃ m,i%3=m:=⟨_,rfl⟩;have hmi:(i:Int)%3=(m:Int):=by omega
   obtain⟨c,hcc⟩:∃ c,17+4*v-11+m=c:=⟨_,rfl⟩;have hci:(N:Int)-11+(m:Int)=(c:Int):=by omega
   have hrb:(r:Int)<(N:Int):=by omega
   have hcb:(c:Int)<(N:Int):=by omega
   have hp:ir v 3 i=some (c,r):=by unfold ir;rw [if_neg (by decide),if_neg (by decide),if_pos h6,if_neg (by decide),hrr,hmm,hcc]
   have hrN:c<N:=by omega
   have hcN:r<N:=by omega
   obtain⟨k1,_,_,⟨ys,k4⟩,k5⟩:=HR.out.row c hrN;have k5c:=k5 r hcN;have k6:=k4.frozen r;obtain⟨q1,hq1⟩:∃ q1,q c=q1:=⟨_,rfl⟩;rw [hq1] at k1 k5c k6;obtain⟨b0,hb0⟩:∃ b0,cf' c r=b0:=⟨_,rfl⟩;rw [hb0] at k5c;have hcp:N<=cp c:=(HR.out.row c hrN).2.2.1;clear k5
   go_wp2_with fail
   go_region
   obtain⟨w9,hw9⟩:∃ w9,w9=(wr.setCell ⟨q1,r,none⟩ (.bool (!b0))).drew:=⟨_,rfl⟩;rw [<- hw9];have HW9:=Mw hw9;have HQ:=Mw hq1;have HP:=Mw hp;have HRN:=Mw hrN;have HCN:=Mw hcN;have HK4:=Mw k4;clear k1 k5c k6 hw9 hq1 hb0 hp hrN hcN k4
   go_wp2
   go_roundw
   case rel=>
    have h1:cP w9 B g N q cp (fun r' c'=>if r'=c/\c'=r then !b0 else cf' r' c'):=by
     rw [HW9.out,<- HQ.out];exact (HR.out.set c r (!b0) HRN.out HCN.out).drew
    have hT9:af wr w9 q1:=by
     rw [HW9.out];have hT:=af.set wr q1 r (.bool (!b0));exact⟨hT.os,hT.tape,hT.output,hT.size,hT.block⟩
    refine⟨j+1,_,_,by go_num,by omega,⟨h1⟩,⟨HT.out.set HP.out (by decide) _⟩,⟨fun x=>?_⟩,⟨hT9.blk HK.out ?_⟩,⟨HB.out.trans (hT9.below ?_)⟩⟩
    ·have:=HL.out x;have h2:=HL.out 3;simp only [Mx,if_false,if_true] at h2;by_cases hx:x=3;rotate_left
     ·rw [if_neg hx];rw [if_neg hx] at this ⊢;exact this
     subst hx;simp only [if_true,My,Mx,if_false];omega
    rotate_left
    ·rw [<- HQ.out];exact (HR.out.row c HRN.out).2.1
    rw [<- HQ.out];exact bd HK.out HK4.out (by decide)
   case measure=>simp [intOf]<;>omega
end Go.Proofs.YtgccjgpdjkhpdaaGreat.B
