import Derived.Test.YtgccjgpdjkhpdaaGreatVBack10
/-! Own texts of this claim, part 11. -/
namespace Go.Proofs.YtgccjgpdjkhpdaaGreat.B
open Go.RowKit Go.Proofs.YtgccjgpdjkhpdaaGreatW.PrintWords Go.Proofs.YtgccjgpdjkhpdaaGreatW.PrintLast Go.Proofs.YtgccjgpdjkhpdaaGreatW.PrintMore
set_option linter.unusedVariables false
set_option linter.unusedSimpArgs false
def maskB (m x y:Nat):Bool:=match m with
 | 0=>decide ((x+y)%2=0)
 | 1=>decide (y%2=0)
 | 2=>decide (x%3=0)
 | 3=>decide ((x+y)%3=0)
 | 4=>decide ((y/2+x/3)%2=0)
 | 5=>decide (x*y%2+x*y%3=0)
 | 6=>decide ((x*y%2+x*y%3)%2=0)
 | _=>decide (((x+y)%2+x*y%3)%2=0)
theorem and1n (n:Nat)(h:n<4294967296):Go.bits .and .i64 (n:Int) 1=((n%2:Nat):Int):=by
 have:=i64_and_nat n 1 h (by omega)
 rw [Nat.and_one_is_mod] at this
 exact this
theorem ret_b {a b:Bool}(h:a=b):Ending.returned (.bool a)=.returned (.bool b):=by rw [h]
theorem beq0 (n:Nat):(((n:Nat):Int)==0)=decide (n=0):=by
 by_cases h:n=0
 ·subst h;rfl
 ·rw [decide_eq_false h]
  simpa using h
def MaskIs (f m:Nat):Prop:=∀ (i j:Nat) (w:World),i<=1000->j<=1000->Calls Tryz.prog f #[.int .i64 (i:Int),.int .i64 (j:Int)] w fun e w'=>e=.returned (.bool (maskB m j i))/\w=w'
theorem mask0:MaskIs 132 0:=by
 intro i j w hi hj
 have ha:Go.bits .and .i64 ((i:Int)+(j:Int)) 1=(((i+j)%2:Nat):Int):=by rw [<- and1n (i+j) (by omega)];congr 1
 go_enter Tryz.func132,Tryz.ntmps132
 go_wp2
 go_ret
 exact⟨ret_b (by rw [show (maskB 0 j i)=decide ((j+i)%2=0) from rfl,Nat.add_comm j i];exact beq0 _),rfl⟩
theorem mask1:MaskIs 133 1:=by
 intro i j w hi hj
 have ha:Go.bits .and .i64 (i:Int) 1=((i%2:Nat):Int):=and1n i (by omega)
 go_enter Tryz.func133,Tryz.ntmps133
 go_wp2
 go_ret
 exact⟨ret_b (beq0 _),rfl⟩
theorem mask2:MaskIs 134 2:=by
 intro i j w hi hj
 go_enter Tryz.func134,Tryz.ntmps134
 go_wp2
 go_ret
 exact⟨ret_b (by rw [show (maskB 2 j i)=decide (j%3=0) from rfl,<- beq0];rfl),rfl⟩
theorem mask3:MaskIs 135 3:=by
 intro i j w hi hj
 go_enter Tryz.func135,Tryz.ntmps135
 go_wp2
 go_ret
 exact⟨ret_b (by rw [show (maskB 3 j i)=decide ((j+i)%3=0) from rfl,<- beq0,Nat.add_comm];rfl),rfl⟩
theorem mask4:MaskIs 136 4:=by
 intro i j w hi hj
 have ha:Go.bits .and .i64 ((i:Int)/2+(j:Int)/3) 1=(((i/2+j/3)%2:Nat):Int):=by rw [<- and1n (i/2+j/3) (by omega)];congr 1
 go_enter Tryz.func136,Tryz.ntmps136
 go_wp2
 go_ret
 exact⟨ret_b (beq0 _),rfl⟩
theorem mul_lim (i j:Nat)(hi:i<=1000)(hj:j<=1000):i*j<=1000000:=Nat.mul_le_mul hi hj
theorem mod5 (q:Nat):(q%6=0)↔(q%2+q%3=0):=by omega
theorem mod6 (q:Nat):((q:Int)%6<3)↔((q%2+q%3)%2=0):=by omega
theorem mod7 (a q:Nat):((a+q%3)%2=0)↔((a%2+q%3)%2=0):=by omega
theorem mask5:MaskIs 137 5:=by
 intro i j w hi hj
 obtain⟨q,hq⟩:∃ q,i*j=q:=⟨_,rfl⟩
 have hql:q<=1000000:=by rw [<- hq];exact mul_lim i j hi hj
 have hw:wrap64 ((i:Int)*(j:Int))=(q:Int):=by rw [<- Int.natCast_mul,hq];unfold wrap64;omega
 have HQ:=Aside0.mk hq
 clear hq
 go_enter Tryz.func137,Tryz.ntmps137
 go_wp2
 go_ret
 refine⟨ret_b ?_,rfl⟩
 rw [show (maskB 5 j i)=decide (j*i%2+j*i%3=0) from rfl,Nat.mul_comm j i,HQ.out]
 have e:(((q:Nat):Int)%6==0)=decide (q%6=0):=by rw [<- beq0];rfl
 refine e.trans ?_
 rw [decide_eq_decide]
 exact mod5 q
theorem mask6:MaskIs 138 6:=by
 intro i j w hi hj
 obtain⟨q,hq⟩:∃ q,i*j=q:=⟨_,rfl⟩
 have hql:q<=1000000:=by rw [<- hq];exact mul_lim i j hi hj
 have hw:wrap64 ((i:Int)*(j:Int))=(q:Int):=by rw [<- Int.natCast_mul,hq];unfold wrap64;omega
 have HQ:=Aside0.mk hq
 clear hq
 go_enter Tryz.func138,Tryz.ntmps138
 go_wp2
 go_ret
 refine⟨ret_b ?_,rfl⟩
 rw [show (maskB 6 j i)=decide ((j*i%2+j*i%3)%2=0) from rfl,Nat.mul_comm j i,HQ.out]
 rw [decide_eq_decide]
 exact mod6 q
theorem mask7:MaskIs 139 7:=by
 intro i j w hi hj
 obtain⟨q,hq⟩:∃ q,i*j=q:=⟨_,rfl⟩
 have hql:q<=1000000:=by rw [<- hq];exact mul_lim i j hi hj
 have hw:wrap64 ((i:Int)*(j:Int))=(q:Int):=by rw [<- Int.natCast_mul,hq];unfold wrap64;omega
 have ha:Go.bits .and .i64 ((i:Int)+(j:Int)+(q:Int)%3) 1=(((i+j+q%3)%2:Nat):Int):=by rw [<- and1n (i+j+q%3) (by omega)];congr 1
 have HQ:=Aside0.mk hq
 clear hq
 go_enter Tryz.func139,Tryz.ntmps139
 go_wp2
 go_ret
 refine⟨ret_b ?_,rfl⟩
 rw [show (maskB 7 j i)=decide (((j+i)%2+j*i%3)%2=0) from rfl,Nat.mul_comm j i,HQ.out]
 refine (beq0 _).trans ?_
 rw [decide_eq_decide,Nat.add_comm j i]
 exact mod7 (i+j) q
def maskV (m:Nat):Value:=.func (.func (132+m)) #[] #[]
def maskCells:Array Value:=#[maskV 0,maskV 1,maskV 2,maskV 3,maskV 4,maskV 5,maskV 6,maskV 7]
theorem maskValues (w:World):Calls Tryz.prog 90 #[] w fun e w'=>e=.returned (.slice (some ⟨w.heap.size,0,none⟩) 8 8)/\w'=w.alloc (.cells maskCells 159):=by
 go_enter Tryz.func90,Tryz.ntmps90
 go_wp2
 go_ret
 exact⟨rfl,rfl⟩
def turned (m:Nat)(f:Nat->Nat->Bool)(i j:Nat):Nat->Nat->Bool:=fun x y=>if y<i\/y=i/\x<j then f x y != maskB m x y else f x y
set_option maxHeartbeats 1000000 in
theorem unmask0 (w:World)(g b n:Nat)(f:Nat->Nat->Bool)(G:Grid w g b n n f)(hn:n<=1000) :
  Calls Tryz.prog 91 #[.agg #[.func (.func 132) #[] #[]],.pointer (some ⟨g,0,none⟩),.int .i64 (n:Int)] w fun e w'=>e=.returned (.tuple #[])/\Grid w' g b n n (fun x y=>f x y != maskB 0 x y)/\Upd w w' b:=by
 have hlt:=G.lt
 have HMASK:=Aside0.mk mask0
 obtain⟨w0,hw0⟩:∃ w0,w0=w.alloc (.cells #[.func (.func 132) #[] #[]] 159):=⟨_,rfl⟩
 have HB0:=Aside0.mk (show Below w.heap.size w w0 by rw [hw0];exact below_alloc (Below.refl _ _) _)
 have HM0:=Aside0.mk (show Blk w0 w.heap.size 159 #[.func (.func 132) #[] #[]] by rw [hw0];exact Blk.new _ _ _)
 have HG0:=Aside0.mk (G.below HB0.out hlt.1 hlt.2)
 obtain⟨B0,hB⟩:∃ B0,B0=w.heap.size:=⟨_,rfl⟩
 have hne:b≠B0:=by omega
 have HW:=Aside0.mk hw0
 have HBB:=Aside0.mk hB
 have hb0:b<B0:=by omega
 clear G hlt hw0 hB
 go_enter Tryz.func91,Tryz.ntmps91
 go_wp2
 rw [<- HW.out,<- HBB.out]
 rw [<- HBB.out] at HB0 HM0
 go_loopw [6] (fun v wr=>∃ i:Nat,i<=n/\v=.int .i64 (i:Int)/\Aside0 (Grid wr g b n n (turned 0 f i 0))/\Aside0 (Turn w0 wr b)) (fun v _=>(n-intOf v).toNat)
 case atStart=>exact⟨0,by omega,rfl,⟨HG0.out.congr fun x y _ _=>by unfold turned;rw [if_neg (by omega)]⟩,⟨Turn.refl _ _⟩⟩
 case round=>
  obtain⟨i,hi,rfl,HG,HT⟩:=hrel
  by_cases hlt:i<n
  ·go_wp2
   obtain⟨wo,rfl⟩:∃ wo:World,wo=wr:=⟨_,rfl⟩
   go_loopw [7] (fun v wi=>∃ j:Nat,j<=n/\v=.int .i64 (j:Int)/\Aside0 (Grid wi g b n n (turned 0 f i j))/\Aside0 (Turn w0 wi b)) (fun v _=>(n-intOf v).toNat)
   case atStart=>exact⟨0,by omega,rfl,HG,HT⟩
   case round=>
    obtain⟨j,hj,rfl,HGi,HTi⟩:=hrel
    by_cases hltj:j<n
    ·have hmb:=HTi.out.blk HM0.out (by omega)
     have c0:wr.cell? ⟨B0,0,none⟩=some (.func (.func 132) #[] #[]):=hmb.cell 0
     have kc:=HMASK.out i j wr (by omega) (by omega)
     clear hmb
     cases hbit:maskB 0 j i with
     | true=>
      rw [hbit] at kc
      have HBIT:=Aside0.mk hbit
      clear hbit
      go_wp2_with (first | (go_at_call 140;refine (gridFlip _ g b n n _ j i HGi.out hltj hlt hn hn).mono ?_;rintro e w' ⟨rfl,hG2,hT2⟩) | (go_at_call 132;refine kc.mono ?_;rintro e w' ⟨rfl,rfl⟩))
      go_roundw
      case rel=>exact⟨j+1,by omega,by go_num,⟨hG2.congr fun x y hx hy=>by
       unfold turned
       by_cases e:x=j/\y=i
       ·rw [if_pos e,if_neg (by omega),if_pos (by omega),e.1,e.2,HBIT.out];cases f j i<;>rfl
       ·rw [if_neg e]
        by_cases e2:y<i\/y=i/\x<j
        ·rw [if_pos e2,if_pos (by omega)]
        ·rw [if_neg e2,if_neg (by omega)]⟩,⟨HTi.out.trans hT2⟩⟩
      case measure=>simp [intOf];omega
     | false=>
      rw [hbit] at kc
      have HBIT:=Aside0.mk hbit
      clear hbit
      go_wp2_with (go_at_call 132;refine kc.mono ?_;rintro e w' ⟨rfl,rfl⟩)
      go_roundw
      case rel=>exact⟨j+1,by omega,by go_num,⟨HGi.out.congr fun x y hx hy=>by
       unfold turned
       by_cases e:x=j/\y=i
       ·rw [if_neg (by omega),if_pos (by omega),e.1,e.2,HBIT.out];cases f j i<;>rfl
       ·by_cases e2:y<i\/y=i/\x<j
        ·rw [if_pos e2,if_pos (by omega)]
        ·rw [if_neg e2,if_neg (by omega)]⟩,HTi⟩
      case measure=>simp [intOf];omega
    ·have:j=n:=by omega
     subst this
     go_wp2
     go_roundw
     case rel=>exact⟨i+1,by omega,by go_num,⟨HGi.out.congr fun x y hx hy=>by
      unfold turned
      by_cases e2:y<i\/y=i/\x<j
      ·rw [if_pos e2,if_pos (by omega)]
      ·rw [if_neg e2,if_neg (by omega)]⟩,HTi⟩
     case measure=>simp [intOf];omega
  ·have:i=n:=by omega
   subst this
   go_wp2
   go_end0
   refine⟨rfl,HG.out.congr fun x y hx hy=>by unfold turned;rw [if_pos (by omega)],?_⟩
   have hb':Below w.heap.size w w0:=by rw [<- HBB.out];exact HB0.out
   exact (Upd.of_below hb' b).trans (Upd.of_turn HT.out)
set_option maxHeartbeats 1000000 in
theorem unmask1 (w:World)(g b n:Nat)(f:Nat->Nat->Bool)(G:Grid w g b n n f)(hn:n<=1000) :
  Calls Tryz.prog 91 #[.agg #[.func (.func 133) #[] #[]],.pointer (some ⟨g,0,none⟩),.int .i64 (n:Int)] w fun e w'=>e=.returned (.tuple #[])/\Grid w' g b n n (fun x y=>f x y != maskB 1 x y)/\Upd w w' b:=by
 have hlt:=G.lt
 have HMASK:=Aside0.mk mask1
 obtain⟨w0,hw0⟩:∃ w0,w0=w.alloc (.cells #[.func (.func 133) #[] #[]] 159):=⟨_,rfl⟩
 have HB0:=Aside0.mk (show Below w.heap.size w w0 by rw [hw0];exact below_alloc (Below.refl _ _) _)
 have HM0:=Aside0.mk (show Blk w0 w.heap.size 159 #[.func (.func 133) #[] #[]] by rw [hw0];exact Blk.new _ _ _)
 have HG0:=Aside0.mk (G.below HB0.out hlt.1 hlt.2)
 obtain⟨B0,hB⟩:∃ B0,B0=w.heap.size:=⟨_,rfl⟩
 have hne:b≠B0:=by omega
 have HW:=Aside0.mk hw0
 have HBB:=Aside0.mk hB
 have hb0:b<B0:=by omega
 clear G hlt hw0 hB
 go_enter Tryz.func91,Tryz.ntmps91
 go_wp2
 rw [<- HW.out,<- HBB.out]
 rw [<- HBB.out] at HB0 HM0
 go_loopw [6] (fun v wr=>∃ i:Nat,i<=n/\v=.int .i64 (i:Int)/\Aside0 (Grid wr g b n n (turned 1 f i 0))/\Aside0 (Turn w0 wr b)) (fun v _=>(n-intOf v).toNat)
 case atStart=>exact⟨0,by omega,rfl,⟨HG0.out.congr fun x y _ _=>by unfold turned;rw [if_neg (by omega)]⟩,⟨Turn.refl _ _⟩⟩
 case round=>
  obtain⟨i,hi,rfl,HG,HT⟩:=hrel
  by_cases hlt:i<n
  ·go_wp2
   obtain⟨wo,rfl⟩:∃ wo:World,wo=wr:=⟨_,rfl⟩
   go_loopw [7] (fun v wi=>∃ j:Nat,j<=n/\v=.int .i64 (j:Int)/\Aside0 (Grid wi g b n n (turned 1 f i j))/\Aside0 (Turn w0 wi b)) (fun v _=>(n-intOf v).toNat)
   case atStart=>exact⟨0,by omega,rfl,HG,HT⟩
   case round=>
    obtain⟨j,hj,rfl,HGi,HTi⟩:=hrel
    by_cases hltj:j<n
    ·have hmb:=HTi.out.blk HM0.out (by omega)
     have c0:wr.cell? ⟨B0,0,none⟩=some (.func (.func 133) #[] #[]):=hmb.cell 0
     have kc:=HMASK.out i j wr (by omega) (by omega)
     clear hmb
     cases hbit:maskB 1 j i with
     | true=>
      rw [hbit] at kc
      have HBIT:=Aside0.mk hbit
      clear hbit
      go_wp2_with (first | (go_at_call 140;refine (gridFlip _ g b n n _ j i HGi.out hltj hlt hn hn).mono ?_;rintro e w' ⟨rfl,hG2,hT2⟩) | (go_at_call 133;refine kc.mono ?_;rintro e w' ⟨rfl,rfl⟩))
      go_roundw
      case rel=>exact⟨j+1,by omega,by go_num,⟨hG2.congr fun x y hx hy=>by
       unfold turned
       by_cases e:x=j/\y=i
       ·rw [if_pos e,if_neg (by omega),if_pos (by omega),e.1,e.2,HBIT.out];cases f j i<;>rfl
       ·rw [if_neg e]
        by_cases e2:y<i\/y=i/\x<j
        ·rw [if_pos e2,if_pos (by omega)]
        ·rw [if_neg e2,if_neg (by omega)]⟩,⟨HTi.out.trans hT2⟩⟩
      case measure=>simp [intOf];omega
     | false=>
      rw [hbit] at kc
      have HBIT:=Aside0.mk hbit
      clear hbit
      go_wp2_with (go_at_call 133;refine kc.mono ?_;rintro e w' ⟨rfl,rfl⟩)
      go_roundw
      case rel=>exact⟨j+1,by omega,by go_num,⟨HGi.out.congr fun x y hx hy=>by
       unfold turned
       by_cases e:x=j/\y=i
       ·rw [if_neg (by omega),if_pos (by omega),e.1,e.2,HBIT.out];cases f j i<;>rfl
       ·by_cases e2:y<i\/y=i/\x<j
        ·rw [if_pos e2,if_pos (by omega)]
        ·rw [if_neg e2,if_neg (by omega)]⟩,HTi⟩
      case measure=>simp [intOf];omega
    ·have:j=n:=by omega
     subst this
     go_wp2
     go_roundw
     case rel=>exact⟨i+1,by omega,by go_num,⟨HGi.out.congr fun x y hx hy=>by
      unfold turned
      by_cases e2:y<i\/y=i/\x<j
      ·rw [if_pos e2,if_pos (by omega)]
      ·rw [if_neg e2,if_neg (by omega)]⟩,HTi⟩
     case measure=>simp [intOf];omega
  ·have:i=n:=by omega
   subst this
   go_wp2
   go_end0
   refine⟨rfl,HG.out.congr fun x y hx hy=>by unfold turned;rw [if_pos (by omega)],?_⟩
   have hb':Below w.heap.size w w0:=by rw [<- HBB.out];exact HB0.out
   exact (Upd.of_below hb' b).trans (Upd.of_turn HT.out)
set_option maxHeartbeats 1000000 in
theorem unmask2 (w:World)(g b n:Nat)(f:Nat->Nat->Bool)(G:Grid w g b n n f)(hn:n<=1000) :
  Calls Tryz.prog 91 #[.agg #[.func (.func 134) #[] #[]],.pointer (some ⟨g,0,none⟩),.int .i64 (n:Int)] w fun e w'=>e=.returned (.tuple #[])/\Grid w' g b n n (fun x y=>f x y != maskB 2 x y)/\Upd w w' b:=by
 have hlt:=G.lt
 have HMASK:=Aside0.mk mask2
 obtain⟨w0,hw0⟩:∃ w0,w0=w.alloc (.cells #[.func (.func 134) #[] #[]] 159):=⟨_,rfl⟩
 have HB0:=Aside0.mk (show Below w.heap.size w w0 by rw [hw0];exact below_alloc (Below.refl _ _) _)
 have HM0:=Aside0.mk (show Blk w0 w.heap.size 159 #[.func (.func 134) #[] #[]] by rw [hw0];exact Blk.new _ _ _)
 have HG0:=Aside0.mk (G.below HB0.out hlt.1 hlt.2)
 obtain⟨B0,hB⟩:∃ B0,B0=w.heap.size:=⟨_,rfl⟩
 have hne:b≠B0:=by omega
 have HW:=Aside0.mk hw0
 have HBB:=Aside0.mk hB
 have hb0:b<B0:=by omega
 clear G hlt hw0 hB
 go_enter Tryz.func91,Tryz.ntmps91
 go_wp2
 rw [<- HW.out,<- HBB.out]
 rw [<- HBB.out] at HB0 HM0
 go_loopw [6] (fun v wr=>∃ i:Nat,i<=n/\v=.int .i64 (i:Int)/\Aside0 (Grid wr g b n n (turned 2 f i 0))/\Aside0 (Turn w0 wr b)) (fun v _=>(n-intOf v).toNat)
 case atStart=>exact⟨0,by omega,rfl,⟨HG0.out.congr fun x y _ _=>by unfold turned;rw [if_neg (by omega)]⟩,⟨Turn.refl _ _⟩⟩
 case round=>
  obtain⟨i,hi,rfl,HG,HT⟩:=hrel
  by_cases hlt:i<n
  ·go_wp2
   obtain⟨wo,rfl⟩:∃ wo:World,wo=wr:=⟨_,rfl⟩
   go_loopw [7] (fun v wi=>∃ j:Nat,j<=n/\v=.int .i64 (j:Int)/\Aside0 (Grid wi g b n n (turned 2 f i j))/\Aside0 (Turn w0 wi b)) (fun v _=>(n-intOf v).toNat)
   case atStart=>exact⟨0,by omega,rfl,HG,HT⟩
   case round=>
    obtain⟨j,hj,rfl,HGi,HTi⟩:=hrel
    by_cases hltj:j<n
    ·have hmb:=HTi.out.blk HM0.out (by omega)
     have c0:wr.cell? ⟨B0,0,none⟩=some (.func (.func 134) #[] #[]):=hmb.cell 0
     have kc:=HMASK.out i j wr (by omega) (by omega)
     clear hmb
     cases hbit:maskB 2 j i with
     | true=>
      rw [hbit] at kc
      have HBIT:=Aside0.mk hbit
      clear hbit
      go_wp2_with (first | (go_at_call 140;refine (gridFlip _ g b n n _ j i HGi.out hltj hlt hn hn).mono ?_;rintro e w' ⟨rfl,hG2,hT2⟩) | (go_at_call 134;refine kc.mono ?_;rintro e w' ⟨rfl,rfl⟩))
      go_roundw
      case rel=>exact⟨j+1,by omega,by go_num,⟨hG2.congr fun x y hx hy=>by
       unfold turned
       by_cases e:x=j/\y=i
       ·rw [if_pos e,if_neg (by omega),if_pos (by omega),e.1,e.2,HBIT.out];cases f j i<;>rfl
       ·rw [if_neg e]
        by_cases e2:y<i\/y=i/\x<j
        ·rw [if_pos e2,if_pos (by omega)]
        ·rw [if_neg e2,if_neg (by omega)]⟩,⟨HTi.out.trans hT2⟩⟩
      case measure=>simp [intOf];omega
     | false=>
      rw [hbit] at kc
      have HBIT:=Aside0.mk hbit
      clear hbit
      go_wp2_with (go_at_call 134;refine kc.mono ?_;rintro e w' ⟨rfl,rfl⟩)
      go_roundw
      case rel=>exact⟨j+1,by omega,by go_num,⟨HGi.out.congr fun x y hx hy=>by
       unfold turned
       by_cases e:x=j/\y=i
       ·rw [if_neg (by omega),if_pos (by omega),e.1,e.2,HBIT.out];cases f j i<;>rfl
       ·by_cases e2:y<i\/y=i/\x<j
        ·rw [if_pos e2,if_pos (by omega)]
        ·rw [if_neg e2,if_neg (by omega)]⟩,HTi⟩
      case measure=>simp [intOf];omega
    ·have:j=n:=by omega
     subst this
     go_wp2
     go_roundw
     case rel=>exact⟨i+1,by omega,by go_num,⟨HGi.out.congr fun x y hx hy=>by
      unfold turned
      by_cases e2:y<i\/y=i/\x<j
      ·rw [if_pos e2,if_pos (by omega)]
      ·rw [if_neg e2,if_neg (by omega)]⟩,HTi⟩
     case measure=>simp [intOf];omega
  ·have:i=n:=by omega
   subst this
   go_wp2
   go_end0
   refine⟨rfl,HG.out.congr fun x y hx hy=>by unfold turned;rw [if_pos (by omega)],?_⟩
   have hb':Below w.heap.size w w0:=by rw [<- HBB.out];exact HB0.out
   exact (Upd.of_below hb' b).trans (Upd.of_turn HT.out)
set_option maxHeartbeats 1000000 in
theorem unmask3 (w:World)(g b n:Nat)(f:Nat->Nat->Bool)(G:Grid w g b n n f)(hn:n<=1000) :
  Calls Tryz.prog 91 #[.agg #[.func (.func 135) #[] #[]],.pointer (some ⟨g,0,none⟩),.int .i64 (n:Int)] w fun e w'=>e=.returned (.tuple #[])/\Grid w' g b n n (fun x y=>f x y != maskB 3 x y)/\Upd w w' b:=by
 have hlt:=G.lt
 have HMASK:=Aside0.mk mask3
 obtain⟨w0,hw0⟩:∃ w0,w0=w.alloc (.cells #[.func (.func 135) #[] #[]] 159):=⟨_,rfl⟩
 have HB0:=Aside0.mk (show Below w.heap.size w w0 by rw [hw0];exact below_alloc (Below.refl _ _) _)
 have HM0:=Aside0.mk (show Blk w0 w.heap.size 159 #[.func (.func 135) #[] #[]] by rw [hw0];exact Blk.new _ _ _)
 have HG0:=Aside0.mk (G.below HB0.out hlt.1 hlt.2)
 obtain⟨B0,hB⟩:∃ B0,B0=w.heap.size:=⟨_,rfl⟩
 have hne:b≠B0:=by omega
 have HW:=Aside0.mk hw0
 have HBB:=Aside0.mk hB
 have hb0:b<B0:=by omega
 clear G hlt hw0 hB
 go_enter Tryz.func91,Tryz.ntmps91
 go_wp2
 rw [<- HW.out,<- HBB.out]
 rw [<- HBB.out] at HB0 HM0
 go_loopw [6] (fun v wr=>∃ i:Nat,i<=n/\v=.int .i64 (i:Int)/\Aside0 (Grid wr g b n n (turned 3 f i 0))/\Aside0 (Turn w0 wr b)) (fun v _=>(n-intOf v).toNat)
 case atStart=>exact⟨0,by omega,rfl,⟨HG0.out.congr fun x y _ _=>by unfold turned;rw [if_neg (by omega)]⟩,⟨Turn.refl _ _⟩⟩
 case round=>
  obtain⟨i,hi,rfl,HG,HT⟩:=hrel
  by_cases hlt:i<n
  ·go_wp2
   obtain⟨wo,rfl⟩:∃ wo:World,wo=wr:=⟨_,rfl⟩
   go_loopw [7] (fun v wi=>∃ j:Nat,j<=n/\v=.int .i64 (j:Int)/\Aside0 (Grid wi g b n n (turned 3 f i j))/\Aside0 (Turn w0 wi b)) (fun v _=>(n-intOf v).toNat)
   case atStart=>exact⟨0,by omega,rfl,HG,HT⟩
   case round=>
    obtain⟨j,hj,rfl,HGi,HTi⟩:=hrel
    by_cases hltj:j<n
    ·have hmb:=HTi.out.blk HM0.out (by omega)
     have c0:wr.cell? ⟨B0,0,none⟩=some (.func (.func 135) #[] #[]):=hmb.cell 0
     have kc:=HMASK.out i j wr (by omega) (by omega)
     clear hmb
     cases hbit:maskB 3 j i with
     | true=>
      rw [hbit] at kc
      have HBIT:=Aside0.mk hbit
      clear hbit
      go_wp2_with (first | (go_at_call 140;refine (gridFlip _ g b n n _ j i HGi.out hltj hlt hn hn).mono ?_;rintro e w' ⟨rfl,hG2,hT2⟩) | (go_at_call 135;refine kc.mono ?_;rintro e w' ⟨rfl,rfl⟩))
      go_roundw
      case rel=>exact⟨j+1,by omega,by go_num,⟨hG2.congr fun x y hx hy=>by
       unfold turned
       by_cases e:x=j/\y=i
       ·rw [if_pos e,if_neg (by omega),if_pos (by omega),e.1,e.2,HBIT.out];cases f j i<;>rfl
       ·rw [if_neg e]
        by_cases e2:y<i\/y=i/\x<j
        ·rw [if_pos e2,if_pos (by omega)]
        ·rw [if_neg e2,if_neg (by omega)]⟩,⟨HTi.out.trans hT2⟩⟩
      case measure=>simp [intOf];omega
     | false=>
      rw [hbit] at kc
      have HBIT:=Aside0.mk hbit
      clear hbit
      go_wp2_with (go_at_call 135;refine kc.mono ?_;rintro e w' ⟨rfl,rfl⟩)
      go_roundw
      case rel=>exact⟨j+1,by omega,by go_num,⟨HGi.out.congr fun x y hx hy=>by
       unfold turned
       by_cases e:x=j/\y=i
       ·rw [if_neg (by omega),if_pos (by omega),e.1,e.2,HBIT.out];cases f j i<;>rfl
       ·by_cases e2:y<i\/y=i/\x<j
        ·rw [if_pos e2,if_pos (by omega)]
        ·rw [if_neg e2,if_neg (by omega)]⟩,HTi⟩
      case measure=>simp [intOf];omega
    ·have:j=n:=by omega
     subst this
     go_wp2
     go_roundw
     case rel=>exact⟨i+1,by omega,by go_num,⟨HGi.out.congr fun x y hx hy=>by
      unfold turned
      by_cases e2:y<i\/y=i/\x<j
      ·rw [if_pos e2,if_pos (by omega)]
      ·rw [if_neg e2,if_neg (by omega)]⟩,HTi⟩
     case measure=>simp [intOf];omega
  ·have:i=n:=by omega
   subst this
   go_wp2
   go_end0
   refine⟨rfl,HG.out.congr fun x y hx hy=>by unfold turned;rw [if_pos (by omega)],?_⟩
   have hb':Below w.heap.size w w0:=by rw [<- HBB.out];exact HB0.out
   exact (Upd.of_below hb' b).trans (Upd.of_turn HT.out)
set_option maxHeartbeats 1000000 in
theorem unmask4 (w:World)(g b n:Nat)(f:Nat->Nat->Bool)(G:Grid w g b n n f)(hn:n<=1000) :
  Calls Tryz.prog 91 #[.agg #[.func (.func 136) #[] #[]],.pointer (some ⟨g,0,none⟩),.int .i64 (n:Int)] w fun e w'=>e=.returned (.tuple #[])/\Grid w' g b n n (fun x y=>f x y != maskB 4 x y)/\Upd w w' b:=by
 have hlt:=G.lt
 have HMASK:=Aside0.mk mask4
 obtain⟨w0,hw0⟩:∃ w0,w0=w.alloc (.cells #[.func (.func 136) #[] #[]] 159):=⟨_,rfl⟩
 have HB0:=Aside0.mk (show Below w.heap.size w w0 by rw [hw0];exact below_alloc (Below.refl _ _) _)
 have HM0:=Aside0.mk (show Blk w0 w.heap.size 159 #[.func (.func 136) #[] #[]] by rw [hw0];exact Blk.new _ _ _)
 have HG0:=Aside0.mk (G.below HB0.out hlt.1 hlt.2)
 obtain⟨B0,hB⟩:∃ B0,B0=w.heap.size:=⟨_,rfl⟩
 have hne:b≠B0:=by omega
 have HW:=Aside0.mk hw0
 have HBB:=Aside0.mk hB
 have hb0:b<B0:=by omega
 clear G hlt hw0 hB
 go_enter Tryz.func91,Tryz.ntmps91
 go_wp2
 rw [<- HW.out,<- HBB.out]
 rw [<- HBB.out] at HB0 HM0
 go_loopw [6] (fun v wr=>∃ i:Nat,i<=n/\v=.int .i64 (i:Int)/\Aside0 (Grid wr g b n n (turned 4 f i 0))/\Aside0 (Turn w0 wr b)) (fun v _=>(n-intOf v).toNat)
 case atStart=>exact⟨0,by omega,rfl,⟨HG0.out.congr fun x y _ _=>by unfold turned;rw [if_neg (by omega)]⟩,⟨Turn.refl _ _⟩⟩
 case round=>
  obtain⟨i,hi,rfl,HG,HT⟩:=hrel
  by_cases hlt:i<n
  ·go_wp2
   obtain⟨wo,rfl⟩:∃ wo:World,wo=wr:=⟨_,rfl⟩
   go_loopw [7] (fun v wi=>∃ j:Nat,j<=n/\v=.int .i64 (j:Int)/\Aside0 (Grid wi g b n n (turned 4 f i j))/\Aside0 (Turn w0 wi b)) (fun v _=>(n-intOf v).toNat)
   case atStart=>exact⟨0,by omega,rfl,HG,HT⟩
   case round=>
    obtain⟨j,hj,rfl,HGi,HTi⟩:=hrel
    by_cases hltj:j<n
    ·have hmb:=HTi.out.blk HM0.out (by omega)
     have c0:wr.cell? ⟨B0,0,none⟩=some (.func (.func 136) #[] #[]):=hmb.cell 0
     have kc:=HMASK.out i j wr (by omega) (by omega)
     clear hmb
     cases hbit:maskB 4 j i with
     | true=>
      rw [hbit] at kc
      have HBIT:=Aside0.mk hbit
      clear hbit
      go_wp2_with (first | (go_at_call 140;refine (gridFlip _ g b n n _ j i HGi.out hltj hlt hn hn).mono ?_;rintro e w' ⟨rfl,hG2,hT2⟩) | (go_at_call 136;refine kc.mono ?_;rintro e w' ⟨rfl,rfl⟩))
      go_roundw
      case rel=>exact⟨j+1,by omega,by go_num,⟨hG2.congr fun x y hx hy=>by
       unfold turned
       by_cases e:x=j/\y=i
       ·rw [if_pos e,if_neg (by omega),if_pos (by omega),e.1,e.2,HBIT.out];cases f j i<;>rfl
       ·rw [if_neg e]
        by_cases e2:y<i\/y=i/\x<j
        ·rw [if_pos e2,if_pos (by omega)]
        ·rw [if_neg e2,if_neg (by omega)]⟩,⟨HTi.out.trans hT2⟩⟩
      case measure=>simp [intOf];omega
     | false=>
      rw [hbit] at kc
      have HBIT:=Aside0.mk hbit
      clear hbit
      go_wp2_with (go_at_call 136;refine kc.mono ?_;rintro e w' ⟨rfl,rfl⟩)
      go_roundw
      case rel=>exact⟨j+1,by omega,by go_num,⟨HGi.out.congr fun x y hx hy=>by
       unfold turned
       by_cases e:x=j/\y=i
       ·rw [if_neg (by omega),if_pos (by omega),e.1,e.2,HBIT.out];cases f j i<;>rfl
       ·by_cases e2:y<i\/y=i/\x<j
        ·rw [if_pos e2,if_pos (by omega)]
        ·rw [if_neg e2,if_neg (by omega)]⟩,HTi⟩
      case measure=>simp [intOf];omega
    ·have:j=n:=by omega
     subst this
     go_wp2
     go_roundw
     case rel=>exact⟨i+1,by omega,by go_num,⟨HGi.out.congr fun x y hx hy=>by
      unfold turned
      by_cases e2:y<i\/y=i/\x<j
      ·rw [if_pos e2,if_pos (by omega)]
      ·rw [if_neg e2,if_neg (by omega)]⟩,HTi⟩
     case measure=>simp [intOf];omega
  ·have:i=n:=by omega
   subst this
   go_wp2
   go_end0
   refine⟨rfl,HG.out.congr fun x y hx hy=>by unfold turned;rw [if_pos (by omega)],?_⟩
   have hb':Below w.heap.size w w0:=by rw [<- HBB.out];exact HB0.out
   exact (Upd.of_below hb' b).trans (Upd.of_turn HT.out)
set_option maxHeartbeats 1000000 in
theorem unmask5 (w:World)(g b n:Nat)(f:Nat->Nat->Bool)(G:Grid w g b n n f)(hn:n<=1000) :
  Calls Tryz.prog 91 #[.agg #[.func (.func 137) #[] #[]],.pointer (some ⟨g,0,none⟩),.int .i64 (n:Int)] w fun e w'=>e=.returned (.tuple #[])/\Grid w' g b n n (fun x y=>f x y != maskB 5 x y)/\Upd w w' b:=by
 have hlt:=G.lt
 have HMASK:=Aside0.mk mask5
 obtain⟨w0,hw0⟩:∃ w0,w0=w.alloc (.cells #[.func (.func 137) #[] #[]] 159):=⟨_,rfl⟩
 have HB0:=Aside0.mk (show Below w.heap.size w w0 by rw [hw0];exact below_alloc (Below.refl _ _) _)
 have HM0:=Aside0.mk (show Blk w0 w.heap.size 159 #[.func (.func 137) #[] #[]] by rw [hw0];exact Blk.new _ _ _)
 have HG0:=Aside0.mk (G.below HB0.out hlt.1 hlt.2)
 obtain⟨B0,hB⟩:∃ B0,B0=w.heap.size:=⟨_,rfl⟩
 have hne:b≠B0:=by omega
 have HW:=Aside0.mk hw0
 have HBB:=Aside0.mk hB
 have hb0:b<B0:=by omega
 clear G hlt hw0 hB
 go_enter Tryz.func91,Tryz.ntmps91
 go_wp2
 rw [<- HW.out,<- HBB.out]
 rw [<- HBB.out] at HB0 HM0
 go_loopw [6] (fun v wr=>∃ i:Nat,i<=n/\v=.int .i64 (i:Int)/\Aside0 (Grid wr g b n n (turned 5 f i 0))/\Aside0 (Turn w0 wr b)) (fun v _=>(n-intOf v).toNat)
 case atStart=>exact⟨0,by omega,rfl,⟨HG0.out.congr fun x y _ _=>by unfold turned;rw [if_neg (by omega)]⟩,⟨Turn.refl _ _⟩⟩
 case round=>
  obtain⟨i,hi,rfl,HG,HT⟩:=hrel
  by_cases hlt:i<n
  ·go_wp2
   obtain⟨wo,rfl⟩:∃ wo:World,wo=wr:=⟨_,rfl⟩
   go_loopw [7] (fun v wi=>∃ j:Nat,j<=n/\v=.int .i64 (j:Int)/\Aside0 (Grid wi g b n n (turned 5 f i j))/\Aside0 (Turn w0 wi b)) (fun v _=>(n-intOf v).toNat)
   case atStart=>exact⟨0,by omega,rfl,HG,HT⟩
   case round=>
    obtain⟨j,hj,rfl,HGi,HTi⟩:=hrel
    by_cases hltj:j<n
    ·have hmb:=HTi.out.blk HM0.out (by omega)
     have c0:wr.cell? ⟨B0,0,none⟩=some (.func (.func 137) #[] #[]):=hmb.cell 0
     have kc:=HMASK.out i j wr (by omega) (by omega)
     clear hmb
     cases hbit:maskB 5 j i with
     | true=>
      rw [hbit] at kc
      have HBIT:=Aside0.mk hbit
      clear hbit
      go_wp2_with (first | (go_at_call 140;refine (gridFlip _ g b n n _ j i HGi.out hltj hlt hn hn).mono ?_;rintro e w' ⟨rfl,hG2,hT2⟩) | (go_at_call 137;refine kc.mono ?_;rintro e w' ⟨rfl,rfl⟩))
      go_roundw
      case rel=>exact⟨j+1,by omega,by go_num,⟨hG2.congr fun x y hx hy=>by
       unfold turned
       by_cases e:x=j/\y=i
       ·rw [if_pos e,if_neg (by omega),if_pos (by omega),e.1,e.2,HBIT.out];cases f j i<;>rfl
       ·rw [if_neg e]
        by_cases e2:y<i\/y=i/\x<j
        ·rw [if_pos e2,if_pos (by omega)]
        ·rw [if_neg e2,if_neg (by omega)]⟩,⟨HTi.out.trans hT2⟩⟩
      case measure=>simp [intOf];omega
     | false=>
      rw [hbit] at kc
      have HBIT:=Aside0.mk hbit
      clear hbit
      go_wp2_with (go_at_call 137;refine kc.mono ?_;rintro e w' ⟨rfl,rfl⟩)
      go_roundw
      case rel=>exact⟨j+1,by omega,by go_num,⟨HGi.out.congr fun x y hx hy=>by
       unfold turned
       by_cases e:x=j/\y=i
       ·rw [if_neg (by omega),if_pos (by omega),e.1,e.2,HBIT.out];cases f j i<;>rfl
       ·by_cases e2:y<i\/y=i/\x<j
        ·rw [if_pos e2,if_pos (by omega)]
        ·rw [if_neg e2,if_neg (by omega)]⟩,HTi⟩
      case measure=>simp [intOf];omega
    ·have:j=n:=by omega
     subst this
     go_wp2
     go_roundw
     case rel=>exact⟨i+1,by omega,by go_num,⟨HGi.out.congr fun x y hx hy=>by
      unfold turned
      by_cases e2:y<i\/y=i/\x<j
      ·rw [if_pos e2,if_pos (by omega)]
      ·rw [if_neg e2,if_neg (by omega)]⟩,HTi⟩
     case measure=>simp [intOf];omega
  ·have:i=n:=by omega
   subst this
   go_wp2
   go_end0
   refine⟨rfl,HG.out.congr fun x y hx hy=>by unfold turned;rw [if_pos (by omega)],?_⟩
   have hb':Below w.heap.size w w0:=by rw [<- HBB.out];exact HB0.out
   exact (Upd.of_below hb' b).trans (Upd.of_turn HT.out)
set_option maxHeartbeats 1000000 in
theorem unmask6 (w:World)(g b n:Nat)(f:Nat->Nat->Bool)(G:Grid w g b n n f)(hn:n<=1000) :
  Calls Tryz.prog 91 #[.agg #[.func (.func 138) #[] #[]],.pointer (some ⟨g,0,none⟩),.int .i64 (n:Int)] w fun e w'=>e=.returned (.tuple #[])/\Grid w' g b n n (fun x y=>f x y != maskB 6 x y)/\Upd w w' b:=by
 have hlt:=G.lt
 have HMASK:=Aside0.mk mask6
 obtain⟨w0,hw0⟩:∃ w0,w0=w.alloc (.cells #[.func (.func 138) #[] #[]] 159):=⟨_,rfl⟩
 have HB0:=Aside0.mk (show Below w.heap.size w w0 by rw [hw0];exact below_alloc (Below.refl _ _) _)
 have HM0:=Aside0.mk (show Blk w0 w.heap.size 159 #[.func (.func 138) #[] #[]] by rw [hw0];exact Blk.new _ _ _)
 have HG0:=Aside0.mk (G.below HB0.out hlt.1 hlt.2)
 obtain⟨B0,hB⟩:∃ B0,B0=w.heap.size:=⟨_,rfl⟩
 have hne:b≠B0:=by omega
 have HW:=Aside0.mk hw0
 have HBB:=Aside0.mk hB
 have hb0:b<B0:=by omega
 clear G hlt hw0 hB
 go_enter Tryz.func91,Tryz.ntmps91
 go_wp2
 rw [<- HW.out,<- HBB.out]
 rw [<- HBB.out] at HB0 HM0
 go_loopw [6] (fun v wr=>∃ i:Nat,i<=n/\v=.int .i64 (i:Int)/\Aside0 (Grid wr g b n n (turned 6 f i 0))/\Aside0 (Turn w0 wr b)) (fun v _=>(n-intOf v).toNat)
 case atStart=>exact⟨0,by omega,rfl,⟨HG0.out.congr fun x y _ _=>by unfold turned;rw [if_neg (by omega)]⟩,⟨Turn.refl _ _⟩⟩
 case round=>
  obtain⟨i,hi,rfl,HG,HT⟩:=hrel
  by_cases hlt:i<n
  ·go_wp2
   obtain⟨wo,rfl⟩:∃ wo:World,wo=wr:=⟨_,rfl⟩
   go_loopw [7] (fun v wi=>∃ j:Nat,j<=n/\v=.int .i64 (j:Int)/\Aside0 (Grid wi g b n n (turned 6 f i j))/\Aside0 (Turn w0 wi b)) (fun v _=>(n-intOf v).toNat)
   case atStart=>exact⟨0,by omega,rfl,HG,HT⟩
   case round=>
    obtain⟨j,hj,rfl,HGi,HTi⟩:=hrel
    by_cases hltj:j<n
    ·have hmb:=HTi.out.blk HM0.out (by omega)
     have c0:wr.cell? ⟨B0,0,none⟩=some (.func (.func 138) #[] #[]):=hmb.cell 0
     have kc:=HMASK.out i j wr (by omega) (by omega)
     clear hmb
     cases hbit:maskB 6 j i with
     | true=>
      rw [hbit] at kc
      have HBIT:=Aside0.mk hbit
      clear hbit
      go_wp2_with (first | (go_at_call 140;refine (gridFlip _ g b n n _ j i HGi.out hltj hlt hn hn).mono ?_;rintro e w' ⟨rfl,hG2,hT2⟩) | (go_at_call 138;refine kc.mono ?_;rintro e w' ⟨rfl,rfl⟩))
      go_roundw
      case rel=>exact⟨j+1,by omega,by go_num,⟨hG2.congr fun x y hx hy=>by
       unfold turned
       by_cases e:x=j/\y=i
       ·rw [if_pos e,if_neg (by omega),if_pos (by omega),e.1,e.2,HBIT.out];cases f j i<;>rfl
       ·rw [if_neg e]
        by_cases e2:y<i\/y=i/\x<j
        ·rw [if_pos e2,if_pos (by omega)]
        ·rw [if_neg e2,if_neg (by omega)]⟩,⟨HTi.out.trans hT2⟩⟩
      case measure=>simp [intOf];omega
     | false=>
      rw [hbit] at kc
      have HBIT:=Aside0.mk hbit
      clear hbit
      go_wp2_with (go_at_call 138;refine kc.mono ?_;rintro e w' ⟨rfl,rfl⟩)
      go_roundw
      case rel=>exact⟨j+1,by omega,by go_num,⟨HGi.out.congr fun x y hx hy=>by
       unfold turned
       by_cases e:x=j/\y=i
       ·rw [if_neg (by omega),if_pos (by omega),e.1,e.2,HBIT.out];cases f j i<;>rfl
       ·by_cases e2:y<i\/y=i/\x<j
        ·rw [if_pos e2,if_pos (by omega)]
        ·rw [if_neg e2,if_neg (by omega)]⟩,HTi⟩
      case measure=>simp [intOf];omega
    ·have:j=n:=by omega
     subst this
     go_wp2
     go_roundw
     case rel=>exact⟨i+1,by omega,by go_num,⟨HGi.out.congr fun x y hx hy=>by
      unfold turned
      by_cases e2:y<i\/y=i/\x<j
      ·rw [if_pos e2,if_pos (by omega)]
      ·rw [if_neg e2,if_neg (by omega)]⟩,HTi⟩
     case measure=>simp [intOf];omega
  ·have:i=n:=by omega
   subst this
   go_wp2
   go_end0
   refine⟨rfl,HG.out.congr fun x y hx hy=>by unfold turned;rw [if_pos (by omega)],?_⟩
   have hb':Below w.heap.size w w0:=by rw [<- HBB.out];exact HB0.out
   exact (Upd.of_below hb' b).trans (Upd.of_turn HT.out)
set_option maxHeartbeats 1000000 in
theorem unmask7 (w:World)(g b n:Nat)(f:Nat->Nat->Bool)(G:Grid w g b n n f)(hn:n<=1000) :
  Calls Tryz.prog 91 #[.agg #[.func (.func 139) #[] #[]],.pointer (some ⟨g,0,none⟩),.int .i64 (n:Int)] w fun e w'=>e=.returned (.tuple #[])/\Grid w' g b n n (fun x y=>f x y != maskB 7 x y)/\Upd w w' b:=by
 have hlt:=G.lt
 have HMASK:=Aside0.mk mask7
 obtain⟨w0,hw0⟩:∃ w0,w0=w.alloc (.cells #[.func (.func 139) #[] #[]] 159):=⟨_,rfl⟩
 have HB0:=Aside0.mk (show Below w.heap.size w w0 by rw [hw0];exact below_alloc (Below.refl _ _) _)
 have HM0:=Aside0.mk (show Blk w0 w.heap.size 159 #[.func (.func 139) #[] #[]] by rw [hw0];exact Blk.new _ _ _)
 have HG0:=Aside0.mk (G.below HB0.out hlt.1 hlt.2)
 obtain⟨B0,hB⟩:∃ B0,B0=w.heap.size:=⟨_,rfl⟩
 have hne:b≠B0:=by omega
 have HW:=Aside0.mk hw0
 have HBB:=Aside0.mk hB
 have hb0:b<B0:=by omega
 clear G hlt hw0 hB
 go_enter Tryz.func91,Tryz.ntmps91
 go_wp2
 rw [<- HW.out,<- HBB.out]
 rw [<- HBB.out] at HB0 HM0
 go_loopw [6] (fun v wr=>∃ i:Nat,i<=n/\v=.int .i64 (i:Int)/\Aside0 (Grid wr g b n n (turned 7 f i 0))/\Aside0 (Turn w0 wr b)) (fun v _=>(n-intOf v).toNat)
 case atStart=>exact⟨0,by omega,rfl,⟨HG0.out.congr fun x y _ _=>by unfold turned;rw [if_neg (by omega)]⟩,⟨Turn.refl _ _⟩⟩
 case round=>
  obtain⟨i,hi,rfl,HG,HT⟩:=hrel
  by_cases hlt:i<n
  ·go_wp2
   obtain⟨wo,rfl⟩:∃ wo:World,wo=wr:=⟨_,rfl⟩
   go_loopw [7] (fun v wi=>∃ j:Nat,j<=n/\v=.int .i64 (j:Int)/\Aside0 (Grid wi g b n n (turned 7 f i j))/\Aside0 (Turn w0 wi b)) (fun v _=>(n-intOf v).toNat)
   case atStart=>exact⟨0,by omega,rfl,HG,HT⟩
   case round=>
    obtain⟨j,hj,rfl,HGi,HTi⟩:=hrel
    by_cases hltj:j<n
    ·have hmb:=HTi.out.blk HM0.out (by omega)
     have c0:wr.cell? ⟨B0,0,none⟩=some (.func (.func 139) #[] #[]):=hmb.cell 0
     have kc:=HMASK.out i j wr (by omega) (by omega)
     clear hmb
     cases hbit:maskB 7 j i with
     | true=>
      rw [hbit] at kc
      have HBIT:=Aside0.mk hbit
      clear hbit
      go_wp2_with (first | (go_at_call 140;refine (gridFlip _ g b n n _ j i HGi.out hltj hlt hn hn).mono ?_;rintro e w' ⟨rfl,hG2,hT2⟩) | (go_at_call 139;refine kc.mono ?_;rintro e w' ⟨rfl,rfl⟩))
      go_roundw
      case rel=>exact⟨j+1,by omega,by go_num,⟨hG2.congr fun x y hx hy=>by
       unfold turned
       by_cases e:x=j/\y=i
       ·rw [if_pos e,if_neg (by omega),if_pos (by omega),e.1,e.2,HBIT.out];cases f j i<;>rfl
       ·rw [if_neg e]
        by_cases e2:y<i\/y=i/\x<j
        ·rw [if_pos e2,if_pos (by omega)]
        ·rw [if_neg e2,if_neg (by omega)]⟩,⟨HTi.out.trans hT2⟩⟩
      case measure=>simp [intOf];omega
     | false=>
      rw [hbit] at kc
      have HBIT:=Aside0.mk hbit
      clear hbit
      go_wp2_with (go_at_call 139;refine kc.mono ?_;rintro e w' ⟨rfl,rfl⟩)
      go_roundw
      case rel=>exact⟨j+1,by omega,by go_num,⟨HGi.out.congr fun x y hx hy=>by
       unfold turned
       by_cases e:x=j/\y=i
       ·rw [if_neg (by omega),if_pos (by omega),e.1,e.2,HBIT.out];cases f j i<;>rfl
       ·by_cases e2:y<i\/y=i/\x<j
        ·rw [if_pos e2,if_pos (by omega)]
        ·rw [if_neg e2,if_neg (by omega)]⟩,HTi⟩
      case measure=>simp [intOf];omega
    ·have:j=n:=by omega
     subst this
     go_wp2
     go_roundw
     case rel=>exact⟨i+1,by omega,by go_num,⟨HGi.out.congr fun x y hx hy=>by
      unfold turned
      by_cases e2:y<i\/y=i/\x<j
      ·rw [if_pos e2,if_pos (by omega)]
      ·rw [if_neg e2,if_neg (by omega)]⟩,HTi⟩
     case measure=>simp [intOf];omega
  ·have:i=n:=by omega
   subst this
   go_wp2
   go_end0
   refine⟨rfl,HG.out.congr fun x y hx hy=>by unfold turned;rw [if_pos (by omega)],?_⟩
   have hb':Below w.heap.size w w0:=by rw [<- HBB.out];exact HB0.out
   exact (Upd.of_below hb' b).trans (Upd.of_turn HT.out)
theorem unmask (w:World)(m g b n:Nat)(f:Nat->Nat->Bool)(hm:m<8)(G:Grid w g b n n f)(hn:n<=1000) :
  Calls Tryz.prog 91 #[.agg #[maskV m],.pointer (some ⟨g,0,none⟩),.int .i64 (n:Int)] w fun e w'=>e=.returned (.tuple #[])/\Grid w' g b n n (fun x y=>f x y != maskB m x y)/\Upd w w' b:=by
 match m,hm with
 | 0,_=>exact unmask0 w g b n f G hn
 | 1,_=>exact unmask1 w g b n f G hn
 | 2,_=>exact unmask2 w g b n f G hn
 | 3,_=>exact unmask3 w g b n f G hn
 | 4,_=>exact unmask4 w g b n f G hn
 | 5,_=>exact unmask5 w g b n f G hn
 | 6,_=>exact unmask6 w g b n f G hn
 | 7,_=>exact unmask7 w g b n f G hn
theorem ctrs_look:∀ v:Fin 40,(verRow (v.val+1)).1=ints (ctrs (v.val+1))/\(ctrs (v.val+1)).length<=7/\∀ c∈ctrs (v.val+1),6<=c/\c+7<=17+4*(v.val+1):=by decide +kernel
theorem ctrs_row (v:Nat)(hv:1<=v/\v<=40):(verRow v).1=ints (ctrs v)/\(ctrs v).length<=7/\∀ c∈ctrs v,6<=c/\c+7<=17+4*v:=by
 have:=ctrs_look ⟨v-1,by omega⟩
 simp only [show v-1+1=v by omega] at this
 exact this
def alAny (cs:List Nat)(X Y x y:Nat):Bool:=(List.range cs.length).any fun p=>(List.range cs.length).any fun q=>
 decide ((p<X\/p=X/\q<Y)/\corner (cs.length-1) p q=false/\inReg (cs.getD q 0-2) (cs.getD p 0-2) 5 5 x y=true)
theorem alAny_iff (cs:List Nat)(X Y x y:Nat):alAny cs X Y x y=true↔∃ p q,p<cs.length/\q<cs.length/\(p<X\/p=X/\q<Y)/\corner (cs.length-1) p q=false/\inReg (cs.getD q 0-2) (cs.getD p 0-2) 5 5 x y=true:=by
 unfold alAny
 simp only [List.any_eq_true,List.mem_range,decide_eq_true_eq]
 constructor
 ·rintro⟨p,hp,q,hq,h⟩
  exact⟨p,q,hp,hq,h⟩
 ·rintro⟨p,q,hp,hq,h⟩
  exact⟨p,hp,q,hq,h⟩
theorem alAny_zero (cs:List Nat)(x y:Nat):alAny cs 0 0 x y=false:=by
 rw [Bool.eq_false_iff]
 intro h
 obtain⟨p,q,_,_,h,_⟩:=(alAny_iff cs 0 0 x y).1 h
 omega
theorem alAny_row (cs:List Nat)(X x y:Nat):alAny cs X cs.length x y=alAny cs (X+1) 0 x y:=by
 rw [Bool.eq_iff_iff,alAny_iff,alAny_iff]
 constructor
 ·rintro⟨p,q,hp,hq,h,k⟩
  exact⟨p,q,hp,hq,by omega,k⟩
 ·rintro⟨p,q,hp,hq,h,k⟩
  exact⟨p,q,hp,hq,by omega,k⟩
theorem alAny_step (cs:List Nat)(X Y x y:Nat)(hX:X<cs.length)(hY:Y<cs.length):alAny cs X (Y+1) x y=((!corner (cs.length-1) X Y && inReg (cs.getD Y 0-2) (cs.getD X 0-2) 5 5 x y) || alAny cs X Y x y):=by
 rw [Bool.eq_iff_iff,Bool.or_eq_true,Bool.and_eq_true,alAny_iff,alAny_iff,Bool.not_eq_true']
 constructor
 ·rintro⟨p,q,hp,hq,h,k1,k2⟩
  by_cases e:p=X/\q=Y
  ·obtain⟨rfl,rfl⟩:=e
   exact .inl ⟨k1,k2⟩
  ·exact .inr ⟨p,q,hp,hq,by omega,k1,k2⟩
 ·rintro (⟨k1,k2⟩ | ⟨p,q,hp,hq,h,k⟩)
  ·exact⟨X,Y,hX,hY,by omega,k1,k2⟩
  ·exact⟨p,q,hp,hq,by omega,k⟩
theorem alY_iff (last i y:Nat):∀ (cs:List Nat) (k:Nat),alY last i y k cs=true↔∃ q,q<cs.length/\corner last i (k+q)=false/\(cs.getD q 0-2<=y/\y<cs.getD q 0-2+5):=by
 intro cs
 induction cs with
 | nil=>intro k;simp [alY]
 | cons b cs ih=>
  intro k
  rw [alY,Bool.or_eq_true,Bool.and_eq_true,Bool.not_eq_true',decide_eq_true_eq,ih]
  constructor
  ·rintro (⟨h1,h2⟩ | ⟨q,hq,h1,h2⟩)
   ·exact⟨0,by simp,h1,h2⟩
   ·exact⟨q+1,by simpa using hq,by rw [show k+(q+1)=k+1+q by omega];exact h1,by simpa using h2⟩
  ·rintro⟨q,hq,h1,h2⟩
   cases q with
   | zero=>exact .inl ⟨h1,by simpa using h2⟩
   | succ q=>exact .inr ⟨q,by simpa using hq,by rw [show k+1+q=k+(q+1) by omega];exact h1,by simpa using h2⟩
theorem alX_iff (last:Nat)(cs:List Nat)(x y:Nat):∀ (bs:List Nat) (i:Nat),alX last cs x y i bs=true↔∃ p,p<bs.length/\(bs.getD p 0-2<=x/\x<bs.getD p 0-2+5)/\alY last (i+p) y 0 cs=true:=by
 intro bs
 induction bs with
 | nil=>intro i;simp [alX]
 | cons a bs ih=>
  intro i
  rw [alX,Bool.or_eq_true,Bool.and_eq_true,decide_eq_true_eq,ih]
  constructor
  ·rintro (⟨h1,h2⟩ | ⟨q,hq,h1,h2⟩)
   ·exact⟨0,by simp,by simpa using h1,h2⟩
   ·exact⟨q+1,by simpa using hq,by simpa using h1,by rw [show i+(q+1)=i+1+q by omega];exact h2⟩
  ·rintro⟨q,hq,h1,h2⟩
   cases q with
   | zero=>exact .inl ⟨by simpa using h1,h2⟩
   | succ q=>exact .inr ⟨q,by simpa using hq,by simpa using h1,by rw [show i+1+q=i+(q+1) by omega];exact h2⟩
theorem corner_comm (last i k:Nat):corner last i k=corner last k i:=by
 unfold corner
 rw [decide_eq_decide]
 omega
theorem alAny_all (cs:List Nat)(x y:Nat):alAny cs cs.length 0 x y=alB cs x y:=by
 rw [Bool.eq_iff_iff,alAny_iff]
 unfold alB
 rw [alX_iff]
 constructor
 ·rintro⟨p,q,hp,hq,_,h1,h2⟩
  unfold inReg at h2
  rw [decide_eq_true_eq] at h2
  refine⟨q,hq,⟨h2.1,h2.2.1⟩,?_⟩
  rw [alY_iff]
  exact⟨p,hp,by rw [Nat.zero_add,Nat.zero_add,corner_comm];exact h1,h2.2.2⟩
 ·rintro⟨q,hq,h1,h2⟩
  rw [alY_iff] at h2
  obtain⟨p,hp,h3,h4⟩:=h2
  refine⟨p,q,hp,hq,.inl hp,by rw [Nat.zero_add,Nat.zero_add,corner_comm] at h3;exact h3,?_⟩
  unfold inReg
  rw [decide_eq_true_eq]
  exact⟨h1.1,h1.2,h4⟩
theorem gridRegionI (w:World)(g b wd ht l t n' m':Nat)(left top n m:Int)(f:Nat->Nat->Bool)(G:Grid w g b wd ht f)(e1:left=(l:Int))(e2:top=(t:Int))(e3:n=(n':Int))(e4:m=(m':Int))(h2:1<=n')(h3:1<=m')(h4:l+n'<=wd)(h5:t+m'<=ht)(hw:wd<=1000)(hh:ht<=1000) :
  Calls Tryz.prog 142 #[.pointer (some ⟨g,0,none⟩),.int .i64 left,.int .i64 top,.int .i64 n,.int .i64 m] w fun e w'=>e=.returned .nilIface/\Grid w' g b wd ht (fun a c=>inReg l t n' m' a c || f a c)/\Turn w w' b:=by
 subst e1 e2 e3 e4
 exact gridRegion w g b wd ht l t n' m' f G h2 h3 h4 h5 hw hh
theorem newSquare (w:World)(n:Nat)(h1:1<=n)(h2:n<=1000):Calls Tryz.prog 141 #[.int .i64 (n:Int)] w fun e w'=>e=.returned (.tuple #[.pointer (some ⟨w.heap.size+1,0,none⟩),.nilIface])/\Grid w' (w.heap.size+1) w.heap.size n n (fun _ _=>false)/\Below w.heap.size w w':=by
 have k:=gridNew w n n h1 h1 h2 h2
 go_enter Tryz.func141,Tryz.ntmps141
 go_wp2_with (go_at_call 147;refine k.mono ?_;rintro e w' ⟨rfl,hG,hB⟩)
 have HG:=Aside0.mk hG
 clear hG
 go_ret2
 exact⟨rfl,HG.out,hB⟩
def fpBase (n x y:Nat):Bool:=inReg 0 (n-8) 9 8 x y || (inReg (n-8) 0 8 9 x y || inReg 0 0 9 9 x y)
set_option maxHeartbeats 4000000 in
theorem funcPattern (w:World)(pv v:Nat)(hv:1<=v/\v<=40)(hV:VerAt w pv (v:Int) (verRow v)) :
  Calls Tryz.prog 92 #[.pointer (some ⟨pv,0,none⟩)] w fun e w'=>∃ g b,e=.returned (.tuple #[.pointer (some ⟨g,0,none⟩),.nilIface])/\w.heap.size<=b/\b<g/\Grid w' g b (17+4*v) (17+4*v) (fpB v (ctrs v))/\Below w.heap.size w w':=by
 have kd:=verDim w pv v _ hV hv
 obtain⟨hrow,hlen,hcs⟩:=ctrs_row v hv
 obtain⟨gc,ge,gg,hB,hC,_⟩:=hV
 rw [hrow] at hB hC
 rw [ints_len] at hB
 obtain⟨cs,hcsd⟩:∃ cs,ctrs v=cs:=⟨_,rfl⟩
 rw [hcsd] at hB hC hlen hcs
 obtain⟨n,hn⟩:∃ n,17+4*v=n:=⟨_,rfl⟩
 rw [hn] at kd hcs ⊢
 obtain⟨mx,hmx⟩:∃ mx,cs.length=mx:=⟨_,rfl⟩
 rw [hmx] at hB hlen
 have hn1:21<=n:=by omega
 have hn2:n<=177:=by omega
 have hC':IBlk w gc cs:=hC
 have HC:=Aside0.mk hC'
 have HB:=Aside0.mk hB
 have HCS:=Aside0.mk hcs
 have HCD:=Aside0.mk hcsd
 have HN:=Aside0.mk hn
 have HMX:=Aside0.mk hmx
 have HROW:=Aside0.mk hrow
 obtain⟨hv1,hv2⟩:=hv
 have c0:w.cell? ⟨pv,0,none⟩=some (.int .i64 (v:Int)):=hB.cell 0
 clear hC hC' hB hcs hcsd hn hmx hrow
 go_enter Tryz.func92,Tryz.ntmps92
 go_wp2_with fail
 refine kd.mono ?_
 rintro e w' ⟨rfl,rfl⟩
 go_wp2_with fail
 refine (newSquare w n (by omega) (by omega)).mono ?_
 rintro e w1 ⟨rfl,hG,hB1⟩
 obtain⟨g,hg⟩:∃ g,g=w.heap.size+1:=⟨_,rfl⟩
 obtain⟨b,hb⟩:∃ b,b=w.heap.size:=⟨_,rfl⟩
 rw [<- hg,<- hb] at hG
 rw [<- hg]
 have HG1:=Aside0.mk hG
 have HB1:=Aside0.mk hB1
 have HGE:=Aside0.mk hg
 have HBE:=Aside0.mk hb
 clear hG hB1 hg hb kd
 go_wp2_with fail
 refine (gridRegionI w1 g b n n 0 0 9 9 _ _ _ _ _ HG1.out (by omega) (by omega) (by omega) (by omega) (by omega) (by omega) (by omega) (by omega) (by omega) (by omega)).mono ?_
 rintro e w2 ⟨rfl,hG2,hT2⟩
 have HG2:=Aside0.mk hG2
 have HT2:=Aside0.mk hT2
 clear hG2 hT2
 go_wp2_with fail
 refine (gridRegionI w2 g b n n (n-8) 0 8 9 _ _ _ _ _ HG2.out (by omega) (by omega) (by omega) (by omega) (by omega) (by omega) (by omega) (by omega) (by omega) (by omega)).mono ?_
 rintro e w3 ⟨rfl,hG3,hT3⟩
 have HG3:=Aside0.mk hG3
 have HT3:=Aside0.mk (HT2.out.trans hT3)
 clear hG3 hT3
 go_wp2_with fail
 refine (gridRegionI w3 g b n n 0 (n-8) 9 8 _ _ _ _ _ HG3.out (by omega) (by omega) (by omega) (by omega) (by omega) (by omega) (by omega) (by omega) (by omega) (by omega)).mono ?_
 rintro e w4 ⟨rfl,hG4,hT4⟩
 have HG4:=Aside0.mk (show Grid w4 g b n n (fun x y=>alAny cs 0 0 x y || fpBase n x y) from hG4.congr fun x y _ _=>by rw [alAny_zero,Bool.false_or];unfold fpBase;simp only [Bool.or_false])
 have HT4:=Aside0.mk (HT3.out.trans hT4)
 have hlb:w.heap.size<=b:=by have:=HBE.out;omega
 have HLT:=Aside0.mk hlb
 clear hG4 hT4
 have hver:∀ W,Turn w1 W b->Blk W pv 154 #[.int .i64 (v:Int),.slice (some ⟨gc,0,none⟩) mx mx,.slice (some ⟨ge,0,none⟩) 4 4,.int .i64 (rowTot (verRow v))]/\IBlk W gc cs:=by
  intro W hT
  have a1:=HB.out.below HB1.out HB.out.lt
  have a2:IBlk w1 gc cs:=Blk.below HC.out HB1.out (Blk.lt HC.out)
  have l1:=HB.out.lt
  have l2:=Blk.lt HC.out
  exact⟨hT.blk a1 (by omega),hT.blk a2 (by omega)⟩
 have HVER:=Aside0.mk hver
 clear hver hlb c0
 obtain⟨v1,v2⟩:=HVER.out w4 HT4.out
 have c1:w4.cell? ⟨pv,1,none⟩=some (.slice (some ⟨gc,0,none⟩) mx mx):=v1.cell 1
 clear v1 v2
 go_wp2_with fail
 clear c1
 go_loopw [8] (fun vx wr=>∃ X:Nat,X<=mx/\vx=.int .i64 (X:Int)/\Aside0 (Grid wr g b n n (fun x y=>alAny cs X 0 x y || fpBase n x y))/\Aside0 (Turn w1 wr b)) (fun vx _=>(mx-intOf vx).toNat)
 case atStart=>exact⟨0,by omega,rfl,HG4,HT4⟩
 case round=>
  obtain⟨X,hX,rfl,HGX,HTX⟩:=hrel
  obtain⟨k1,k2⟩:=HVER.out wr HTX.out
  by_cases hlt:X<mx
  ·have c1:wr.cell? ⟨pv,1,none⟩=some (.slice (some ⟨gc,0,none⟩) mx mx):=k1.cell 1
   have cX:=k2.cell X (by have:=HMX.out;omega)
   have hmem:cs.getD X 0∈cs:=by
    have:X<cs.length:=by have:=HMX.out;omega
    rw [List.getD_eq_getElem?_getD,List.getElem?_eq_getElem this]
    exact List.getElem_mem this
   obtain⟨hx1,hx2⟩:=HCS.out _ hmem
   obtain⟨cx,hcx⟩:∃ cx,cs.getD X 0=cx:=⟨_,rfl⟩
   rw [hcx] at cX hx1 hx2
   have HCX:=Aside0.mk hcx
   clear hcx hmem k1 k2
   go_wp2_with fail
   clear c1 cX
   go_loopw [10] (fun vy wi=>∃ Y:Nat,Y<=mx/\vy=.int .i64 (Y:Int)/\Aside0 (Grid wi g b n n (fun x y=>alAny cs X Y x y || fpBase n x y))/\Aside0 (Turn w1 wi b)) (fun vy _=>(mx-intOf vy).toNat)
   case atStart=>exact⟨0,by omega,rfl,HGX,HTX⟩
   case round=>
    obtain⟨Y,hY,rfl,HGY,HTY⟩:=hrel
    obtain⟨k1,k2⟩:=HVER.out wr HTY.out
    by_cases hltY:Y<mx
    ·have c1:wr.cell? ⟨pv,1,none⟩=some (.slice (some ⟨gc,0,none⟩) mx mx):=k1.cell 1
     have cY:=k2.cell Y (by have:=HMX.out;omega)
     have hmem:cs.getD Y 0∈cs:=by
      have:Y<cs.length:=by have:=HMX.out;omega
      rw [List.getD_eq_getElem?_getD,List.getElem?_eq_getElem this]
      exact List.getElem_mem this
     obtain⟨hy1,hy2⟩:=HCS.out _ hmem
     obtain⟨cy,hcy⟩:∃ cy,cs.getD Y 0=cy:=⟨_,rfl⟩
     rw [hcy] at cY hy1 hy2
     have HCY:=Aside0.mk hcy
     have hstep:=fun x y=>alAny_step cs X Y x y (by have:=HMX.out;omega) (by have:=HMX.out;omega)
     have HSTEP:=Aside0.mk hstep
     obtain⟨b1,e1⟩:∃ b,((X:Int)==0)=b:=⟨_,rfl⟩
     obtain⟨b2,e2⟩:∃ b,((Y:Int)==0)=b:=⟨_,rfl⟩
     obtain⟨b3,e3⟩:∃ b,((Y:Int)==(mx:Int)-1)=b:=⟨_,rfl⟩
     obtain⟨b4,e4⟩:∃ b,((X:Int)==(mx:Int)-1)=b:=⟨_,rfl⟩
     have hcor:corner (cs.length-1) X Y=((b1 && (b2 || b3)) || (b4 && b2)):=by
      have q1:b1=decide (X=0):=by rw [<- e1];exact beq0 X
      have q2:b2=decide (Y=0):=by rw [<- e2];exact beq0 Y
      have q3:b3=decide (Y=cs.length-1):=by
       rw [<- e3,HMX.out,Bool.eq_iff_iff,decide_eq_true_eq,beq_iff_eq];omega
      have q4:b4=decide (X=cs.length-1):=by
       rw [<- e4,HMX.out,Bool.eq_iff_iff,decide_eq_true_eq,beq_iff_eq];omega
      rw [q1,q2,q3,q4,Bool.eq_iff_iff]
      unfold corner
      simp only [Bool.or_eq_true,Bool.and_eq_true,decide_eq_true_eq]
     have HCOR:=Aside0.mk hcor
     clear hcy hmem k1 k2 hstep hcor
     have kr:=fun (W:World) (GG:Grid W g b n n (fun x y=>alAny cs X Y x y || fpBase n x y))=>gridRegionI W g b n n (cy-2) (cx-2) 5 5 ((cy:Int)-2) ((cx:Int)-2) 5 5 _ GG (by omega) (by omega) (by omega) (by omega) (by omega) (by omega) (by omega) (by omega) (by omega) (by omega)
     have HKR:=Aside0.mk kr
     clear kr
     cases b1<;>cases b2<;>cases b3<;>cases b4
     all_goals
      go_wp2_with (go_at_call 142;refine (HKR.out wr HGY.out).mono ?_;rintro e w' ⟨rfl,hG5,hT5⟩)
      go_roundw
      case rel=>first
       | exact⟨Y+1,by omega,by go_num,⟨HGY.out.congr fun x y _ _=>by rw [HSTEP.out,HCOR.out];rfl⟩,HTY⟩
       | exact⟨Y+1,by omega,by go_num,⟨hG5.congr fun x y _ _=>by rw [HSTEP.out,HCOR.out,HCX.out,HCY.out,Bool.or_assoc];rfl⟩,⟨HTY.out.trans hT5⟩⟩
      case measure=>simp [intOf];omega
    ·have:Y=mx:=by omega
     subst this
     go_wp2
     go_roundw
     case rel=>exact⟨X+1,by omega,by go_num,⟨HGY.out.congr fun x y _ _=>by rw [<- alAny_row,HMX.out]⟩,HTY⟩
     case measure=>simp [intOf];omega
  ·have:X=mx:=by omega
   subst this
   clear k1 k2
   have HGA:=Aside0.mk (show Grid wr g b n n (fun x y=>alB cs x y || fpBase n x y) from HGX.out.congr fun x y _ _=>by rw [<- HMX.out,alAny_all])
   go_wp2_with fail
   refine (gridRegionI wr g b n n 6 9 1 (n-17) _ _ _ _ _ HGA.out (by omega) (by omega) (by omega) (by omega) (by omega) (by omega) (by omega) (by omega) (by omega) (by omega)).mono ?_
   rintro e w6 ⟨rfl,hG6,hT6⟩
   have HG6:=Aside0.mk hG6
   have HT6:=Aside0.mk (HTX.out.trans hT6)
   clear hG6 hT6
   go_wp2_with fail
   refine (gridRegionI w6 g b n n 9 6 (n-17) 1 _ _ _ _ _ HG6.out (by omega) (by omega) (by omega) (by omega) (by omega) (by omega) (by omega) (by omega) (by omega) (by omega)).mono ?_
   rintro e w7 ⟨rfl,hG7,hT7⟩
   have HG7:=Aside0.mk hG7
   have HT7:=Aside0.mk (HT6.out.trans hT7)
   clear hG7 hT7
   obtain⟨k1,k2⟩:=HVER.out w7 HT7.out
   have c0:w7.cell? ⟨pv,0,none⟩=some (.int .i64 (v:Int)):=k1.cell 0
   clear k1 k2
   have hbel:∀ W,Turn w1 W b->Below w.heap.size w W:=fun W hT=>HB1.out.trans (hT.below HLT.out)
   have HBEL:=Aside0.mk hbel
   clear hbel
   by_cases h6:6<v
   ·go_wp2_with fail
    refine (gridRegionI w7 g b n n (n-11) 0 3 6 _ _ _ _ _ HG7.out (by omega) (by omega) (by omega) (by omega) (by omega) (by omega) (by omega) (by omega) (by omega) (by omega)).mono ?_
    rintro e w8 ⟨rfl,hG8,hT8⟩
    have HG8:=Aside0.mk hG8
    have HT8:=Aside0.mk (HT7.out.trans hT8)
    clear hG8 hT8
    go_wp2_with fail
    refine (gridRegionI w8 g b n n 0 (n-11) 6 3 _ _ _ _ _ HG8.out (by omega) (by omega) (by omega) (by omega) (by omega) (by omega) (by omega) (by omega) (by omega) (by omega)).mono ?_
    rintro e w9 ⟨rfl,hG9,hT9⟩
    have HG9:=Aside0.mk hG9
    have HT9:=Aside0.mk (HT8.out.trans hT9)
    clear hG9 hT9
    go_wp2_with fail
    go_ret2
    refine⟨g,b,rfl,by have:=HLT.out;omega,by have:=HGE.out;have:=HBE.out;omega,HG9.out.congr fun x y _ _=>?_,HBEL.out w9 HT9.out⟩
    have hn:=HN.out
    unfold fpB fpBase
    rw [HCD.out,decide_eq_true h6,show 4*v+9=n-8 by omega,show 4*v+6=n-11 by omega,show 4*v=n-17 by omega,Bool.true_and]
    ac_rfl
   ·go_wp2_with fail
    go_ret2
    refine⟨g,b,rfl,by have:=HLT.out;omega,by have:=HGE.out;have:=HBE.out;omega,HG7.out.congr fun x y _ _=>?_,HBEL.out w7 HT7.out⟩
    have hn:=HN.out
    unfold fpB fpBase
    rw [HCD.out,decide_eq_false h6,show 4*v+9=n-8 by omega,show 4*v=n-17 by omega,Bool.false_and,Bool.or_false]
    ac_rfl
end Go.Proofs.YtgccjgpdjkhpdaaGreat.B
