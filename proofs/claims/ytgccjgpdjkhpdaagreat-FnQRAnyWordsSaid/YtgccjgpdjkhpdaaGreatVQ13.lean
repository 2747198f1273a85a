import Derived.Outline
import Derived.Test.YtgccjgpdjkhpdaaGreatVQ10
/-! Own texts of this claim, part 13. -/
namespace Go.Proofs.YtgccjgpdjkhpdaaGreat.B
open Go.RowKit Go.Proofs.YtgccjgpdjkhpdaaGreatW.PrintWords Go.Proofs.YtgccjgpdjkhpdaaGreatW.PrintLast Go.Proofs.YtgccjgpdjkhpdaaGreatW.PrintMore
set_option linter.unusedVariables false
set_option linter.unusedSimpArgs false
def VerOK (f:Nat->Nat->Bool)(v:Nat):Prop:=7<=v->hd (vacc f (17+4*v) 18) (verTabN.getD (v-7) 0)<=3
theorem readVersion (w:World)(p g b v:Nat)(fm:Value)(f:Nat->Nat->Bool)(hP:Parser w p g v fm)(G:Grid w g b (17+4*v) (17+4*v) f)(hv:1<=v/\v<=40)(hok:VerOK f v) :
  Calls Tryz.prog 39 #[.pointer (some ⟨p,0,none⟩)] w (VerRead w p g v fm):=by
 obtain⟨x1,hB,hx⟩:=hP
 rcases hx with rfl | ⟨pv,rfl,hV⟩
 ·by_cases h:v<=6
  ·exact readVersion_small w p g b v fm f hB G ⟨hv.1,h⟩
  ·exact readVersion_great w p g b v fm f hB G ⟨by omega,hv.2⟩ (hok (by omega))
 ·exact readVersion_again w p g v pv fm hB hV
theorem verNum (w:World)(p n:Nat)(v:VerRow)(h:VerAt w p (n:Int) v):Calls Tryz.prog 41 #[.pointer (some ⟨p,0,none⟩)] w fun e w'=>e=.returned (.int .i64 (n:Int))/\w=w':=by
 obtain⟨gc,ge,g,h1,_⟩:=h
 exact ver_num w p _ (h1.cell 0)
theorem fmtLevel (w:World)(q d:Nat)(h:FmtAt w q d):Calls Tryz.prog 42 #[.pointer (some ⟨q,0,none⟩)] w fun e w'=>e=.returned (.int .i64 ((d/8:Nat):Int))/\w=w':=by
 have c0:w.cell? ⟨q,0,none⟩=_:=Blk.cell h 0
 obtain⟨x,hx⟩:∃ x,d/8=x:=⟨_,rfl⟩
 rw [hx] at c0 ⊢
 clear h hx
 replace c0:w.cell? ⟨q,0,none⟩=some (.int .i64 (x:Int)):=c0
 go_enter Tryz.func42,Tryz.ntmps42
 go_wp2
 go_ret
 exact⟨rfl,rfl⟩
theorem fmtMask (w:World)(q d:Nat)(h:FmtAt w q d):Calls Tryz.prog 44 #[.pointer (some ⟨q,0,none⟩)] w fun e w'=>e=.returned (.int .u8 ((d%8:Nat):Int))/\w=w':=by
 have c0:w.cell? ⟨q,1,none⟩=_:=Blk.cell h 1
 obtain⟨x,hx⟩:∃ x,d%8=x:=⟨_,rfl⟩
 rw [hx] at c0 ⊢
 clear h hx
 replace c0:w.cell? ⟨q,1,none⟩=some (.int .u8 (x:Int)):=c0
 go_enter Tryz.func44,Tryz.ntmps44
 go_wp2
 go_ret
 exact⟨rfl,rfl⟩
theorem ver_same (w:World)(pv v:Nat)(r:VerRow)(h:VerAt w pv (v:Int) r):Calls Tryz.prog 41 #[.pointer (some ⟨pv,0,none⟩)] w fun e w'=>e=.returned (.int .i64 (v:Int))/\w=w':=verNum w pv v r h
def rowBits (m:Nat):List Int:=if m=1 then [10,12,14] else if m=2 then [9,11,13] else [8,16,16]
theorem modeRow (w:World)(m:Nat)(hm:m=1\/m=2\/m=4):Calls Tryz.prog 144 #[.int .i64 (m:Int)] w fun e w'=>e=.returned (.slice (some ⟨w.heap.size,0,none⟩) 3 3)/\w'=w.alloc (.cells (nums .i64 (rowBits m)).toArray 3):=by
 rcases hm with rfl | rfl | rfl
 all_goals
  go_enter Tryz.func144,Tryz.ntmps144
  go_wp2
  go_ret
  exact⟨rfl,rfl⟩
def verOff (v:Nat):Nat:=if v<=9 then 0 else if v<=26 then 1 else 2
theorem row_cnt (m v:Nat)(hm:m=1\/m=2\/m=4):rd (rowBits m) (verOff v:Nat)=(cntBits m v:Int):=by
 have hv:(v<=9)\/(¬ v<=9/\v<=26)\/(¬ v<=9/\¬ v<=26):=by omega
 unfold verOff cntBits
 rcases hv with h | ⟨h,h2⟩ | ⟨h,h2⟩<;>rcases hm with rfl | rfl | rfl<;>simp [*,rowBits,rd]<;>(first | rfl | omega)
theorem cntOf (w:World)(pv v m:Nat)(r:VerRow)(h:VerAt w pv (v:Int) r)(hv:1<=v/\v<=40)(hm:m=1\/m=2\/m=4) :
  Calls Tryz.prog 111 #[.int .i64 (m:Int),.pointer (some ⟨pv,0,none⟩)] w fun e w'=>e=.returned (.int .i64 (cntBits m v:Int))/\Below w.heap.size w w':=by
 have kv:=ver_same w pv v r h
 have K:=Aside0.mk (row_cnt m v hm)
 have ho:verOff v<=2:=by unfold verOff;split<;>first | omega | (split<;>omega)
 obtain⟨o,hoo⟩:∃ o,verOff v=o:=⟨_,rfl⟩
 rw [hoo] at K ho
 have hlen:(rowBits m).length=3:=by unfold rowBits;rcases hm with rfl | rfl | rfl<;>rfl
 have HB:=Aside0.mk (Blk.new w 3 (nums .i64 (rowBits m)).toArray)
 have c1:(w.alloc (.cells (nums .i64 (rowBits m)).toArray 3)).cell? ⟨w.heap.size,o,none⟩=some (.int .i64 (cntBits m v:Int)):=by
  have:=HB.out.ucell (o:Int) (by omega) (by rw [hlen];omega)
  rw [Int.toNat_natCast,K.out] at this
  exact this
 have km:=modeRow w m hm
 obtain⟨w2,hw2⟩:∃ w2,w2=w.alloc (.cells (nums .i64 (rowBits m)).toArray 3):=⟨_,rfl⟩
 rw [<- hw2] at c1 km
 have HBel:=Aside0.mk (show Below w.heap.size w w2 by rw [hw2];exact below_alloc (Below.refl _ _) _)
 clear h hw2 hlen
 have hcs:(v<=9/\o=0)\/(10<=v/\v<=26/\o=1)\/(27<=v/\o=2):=by unfold verOff at hoo;split at hoo<;>first | omega | (split at hoo<;>omega)
 clear hoo ho
 rcases hcs with⟨h1,rfl⟩ | ⟨h1,h2,rfl⟩ | ⟨h1,rfl⟩
 all_goals
  go_enter Tryz.func111,Tryz.ntmps111
  go_wp2_with (first | (go_at_call 41;refine kv.mono ?_;rintro e w' ⟨rfl,rfl⟩) | (go_at_call 144;refine km.mono ?_;rintro e w' ⟨rfl,rfl⟩))
  try go_quiet (fail)
  try go_wp2
  go_ret
  exact⟨rfl,HBel.out⟩
def lvName (l:Nat):ByteArray:=if l=0 then ⟨#[77]⟩ else if l=1 then ⟨#[76]⟩ else if l=2 then ⟨#[72]⟩ else ⟨#[81]⟩
theorem levelName (w:World)(l:Nat)(h:l<4):Calls Tryz.prog 118 #[.int .i64 (l:Int)] w fun e w'=>e=.returned (.string (lvName l))/\w=w':=by
 have:l=0\/l=1\/l=2\/l=3:=by omega
 rcases this with rfl | rfl | rfl | rfl
 all_goals
  go_enter Tryz.func118,Tryz.ntmps118
  go_wp2
  go_ret
  exact⟨rfl,rfl⟩
theorem newRes (w:World)(g n cg:Nat)(t nm:ByteArray)(A:Option Addr)(m c:Nat)(sq par md:Int)(hn:n<=1000000) :
  Calls Tryz.prog 117 #[.slice (some ⟨g,0,none⟩) n cg,.string t,.slice A m c,.string nm,.int .i64 sq,.int .i64 par,.int .i64 md] w fun e w'=>e=.returned (.pointer (some ⟨w.heap.size,0,none⟩))/\
   w'=w.alloc (.cells #[.slice (some ⟨g,0,none⟩) n cg,.int .i64 (8*(n:Int)),.string t,.slice A m c,.string nm,.int .i64 0,.int .i64 0,.nilIface,.int .i64 par,.int .i64 sq,.int .i64 md] 194):=by
 go_enter Tryz.func117,Tryz.ntmps117
 go_wp2
 go_ret
 exact⟨rfl,rfl⟩
def maskB (m x y:Nat):Bool:=match m with
 | 0=>decide ((x+y)%2=0)
 | 1=>decide (y%2=0)
 | 2=>decide (x%3=0)
 | 3=>decide ((x+y)%3=0)
 | 4=>decide ((y/2+x/3)%2=0)
 | 5=>decide (x*y%2+x*y%3=0)
 | 6=>decide ((x*y%2+x*y%3)%2=0)
 | _=>decide (((x+y)%2+x*y%3)%2=0)
theorem and1n (n:Nat)(h:n<4294967296):Go.bits .and .i64 (n:Int) 1=((n%2:Nat):Int):=by
 have:=i64_and_nat n 1 h (by omega)
 rw [Nat.and_one_is_mod] at this
 exact this
theorem ret_b {a b:Bool}(h:a=b):Ending.returned (.bool a)=.returned (.bool b):=by rw [h]
theorem beq0 (n:Nat):(((n:Nat):Int)==0)=decide (n=0):=by
 by_cases h:n=0
 ·subst h;rfl
 ·rw [decide_eq_false h]
  simpa using h
def MaskIs (f m:Nat):Prop:=∀ (i j:Nat) (w:World),i<=1000->j<=1000->Calls Tryz.prog f #[.int .i64 (i:Int),.int .i64 (j:Int)] w fun e w'=>e=.returned (.bool (maskB m j i))/\w=w'
theorem mask0:MaskIs 132 0:=by
 intro i j w hi hj
 have ha:Go.bits .and .i64 ((i:Int)+(j:Int)) 1=(((i+j)%2:Nat):Int):=by rw [<- and1n (i+j) (by omega)];congr 1
 go_enter Tryz.func132,Tryz.ntmps132
 go_wp2
 go_ret
 exact⟨ret_b (by rw [show (maskB 0 j i)=decide ((j+i)%2=0) from rfl,Nat.add_comm j i];exact beq0 _),rfl⟩
theorem mask1:MaskIs 133 1:=by
 intro i j w hi hj
 have ha:Go.bits .and .i64 (i:Int) 1=((i%2:Nat):Int):=and1n i (by omega)
 go_enter Tryz.func133,Tryz.ntmps133
 go_wp2
 go_ret
 exact⟨ret_b (beq0 _),rfl⟩
theorem mask2:MaskIs 134 2:=by
 intro i j w hi hj
 go_enter Tryz.func134,Tryz.ntmps134
 go_wp2
 go_ret
 exact⟨ret_b (by rw [show (maskB 2 j i)=decide (j%3=0) from rfl,<- beq0];rfl),rfl⟩
theorem mask3:MaskIs 135 3:=by
 intro i j w hi hj
 go_enter Tryz.func135,Tryz.ntmps135
 go_wp2
 go_ret
 exact⟨ret_b (by rw [show (maskB 3 j i)=decide ((j+i)%3=0) from rfl,<- beq0,Nat.add_comm];rfl),rfl⟩
theorem mask4:MaskIs 136 4:=by
 intro i j w hi hj
 have ha:Go.bits .and .i64 ((i:Int)/2+(j:Int)/3) 1=(((i/2+j/3)%2:Nat):Int):=by rw [<- and1n (i/2+j/3) (by omega)];congr 1
 go_enter Tryz.func136,Tryz.ntmps136
 go_wp2
 go_ret
 exact⟨ret_b (beq0 _),rfl⟩
theorem mul_lim (i j:Nat)(hi:i<=1000)(hj:j<=1000):i*j<=1000000:=Nat.mul_le_mul hi hj
theorem mod5 (q:Nat):(q%6=0)↔(q%2+q%3=0):=by omega
theorem mod6 (q:Nat):((q:Int)%6<3)↔((q%2+q%3)%2=0):=by omega
theorem mod7 (a q:Nat):((a+q%3)%2=0)↔((a%2+q%3)%2=0):=by omega
theorem mask5:MaskIs 137 5:=by
 intro i j w hi hj
 obtain⟨q,hq⟩:∃ q,i*j=q:=⟨_,rfl⟩
 have hql:q<=1000000:=by rw [<- hq];exact mul_lim i j hi hj
 have hw:wrap64 ((i:Int)*(j:Int))=(q:Int):=by rw [<- Int.natCast_mul,hq];unfold wrap64;omega
 have HQ:=Aside0.mk hq
 clear hq
 go_enter Tryz.func137,Tryz.ntmps137
 go_wp2
 go_ret
 refine⟨ret_b ?_,rfl⟩
 rw [show (maskB 5 j i)=decide (j*i%2+j*i%3=0) from rfl,Nat.mul_comm j i,HQ.out]
 have e:(((q:Nat):Int)%6==0)=decide (q%6=0):=by rw [<- beq0];rfl
 refine e.trans ?_
 rw [decide_eq_decide]
 exact mod5 q
theorem mask6:MaskIs 138 6:=by
 intro i j w hi hj
 obtain⟨q,hq⟩:∃ q,i*j=q:=⟨_,rfl⟩
 have hql:q<=1000000:=by rw [<- hq];exact mul_lim i j hi hj
 have hw:wrap64 ((i:Int)*(j:Int))=(q:Int):=by rw [<- Int.natCast_mul,hq];unfold wrap64;omega
 have HQ:=Aside0.mk hq
 clear hq
 go_enter Tryz.func138,Tryz.ntmps138
 go_wp2
 go_ret
 refine⟨ret_b ?_,rfl⟩
 rw [show (maskB 6 j i)=decide ((j*i%2+j*i%3)%2=0) from rfl,Nat.mul_comm j i,HQ.out]
 rw [decide_eq_decide]
 exact mod6 q
theorem mask7:MaskIs 139 7:=by
 intro i j w hi hj
 obtain⟨q,hq⟩:∃ q,i*j=q:=⟨_,rfl⟩
 have hql:q<=1000000:=by rw [<- hq];exact mul_lim i j hi hj
 have hw:wrap64 ((i:Int)*(j:Int))=(q:Int):=by rw [<- Int.natCast_mul,hq];unfold wrap64;omega
 have ha:Go.bits .and .i64 ((i:Int)+(j:Int)+(q:Int)%3) 1=(((i+j+q%3)%2:Nat):Int):=by rw [<- and1n (i+j+q%3) (by omega)];congr 1
 have HQ:=Aside0.mk hq
 clear hq
 go_enter Tryz.func139,Tryz.ntmps139
 go_wp2
 go_ret
 refine⟨ret_b ?_,rfl⟩
 rw [show (maskB 7 j i)=decide (((j+i)%2+j*i%3)%2=0) from rfl,Nat.mul_comm j i,HQ.out]
 refine (beq0 _).trans ?_
 rw [decide_eq_decide,Nat.add_comm j i]
 exact mod7 (i+j) q
theorem maskOf (m:Nat)(h:m<8):MaskIs (132+m) m:=by
 match m,h with
 | 0,_=>exact mask0
 | 1,_=>exact mask1
 | 2,_=>exact mask2
 | 3,_=>exact mask3
 | 4,_=>exact mask4
 | 5,_=>exact mask5
 | 6,_=>exact mask6
 | 7,_=>exact mask7
def maskV (m:Nat):Value:=.func (.func (132+m)) #[] #[]
def maskCells:Array Value:=#[maskV 0,maskV 1,maskV 2,maskV 3,maskV 4,maskV 5,maskV 6,maskV 7]
theorem maskValues (w:World):Calls Tryz.prog 90 #[] w fun e w'=>e=.returned (.slice (some ⟨w.heap.size,0,none⟩) 8 8)/\w'=w.alloc (.cells maskCells 159):=by
 go_enter Tryz.func90,Tryz.ntmps90
 go_wp2
 go_ret
 exact⟨rfl,rfl⟩
def turned (m:Nat)(f:Nat->Nat->Bool)(i j:Nat):Nat->Nat->Bool:=fun x y=>if y<i\/y=i/\x<j then f x y != maskB m x y else f x y
set_option maxHeartbeats 8000000 in
theorem unmaskF (w:World)(FN m g b n:Nat)(f:Nat->Nat->Bool)(hM:MaskIs FN m)(hF:FN=132\/FN=133\/FN=134\/FN=135\/FN=136\/FN=137\/FN=138\/FN=139)(G:Grid w g b n n f)(hn:n<=1000) :
  Calls Tryz.prog 91 #[.agg #[.func (.func FN) #[] #[]],.pointer (some ⟨g,0,none⟩),.int .i64 (n:Int)] w fun e w'=>e=.returned (.tuple #[])/\Grid w' g b n n (fun x y=>f x y != maskB m x y)/\Upd w w' b:=by
 have hlt:=G.lt
 have HMASK:=Aside0.mk hM
 obtain⟨w0,hw0⟩:∃ w0,w0=w.alloc (.cells #[.func (.func FN) #[] #[]] 159):=⟨_,rfl⟩
 have HB0:=Aside0.mk (show Below w.heap.size w w0 by rw [hw0];exact below_alloc (Below.refl _ _) _)
 have HM0:=Aside0.mk (show Blk w0 w.heap.size 159 #[.func (.func FN) #[] #[]] by rw [hw0];exact Blk.new _ _ _)
 have HG0:=Aside0.mk (G.below HB0.out hlt.1 hlt.2)
 obtain⟨B0,hB⟩:∃ B0,B0=w.heap.size:=⟨_,rfl⟩
 have hne:b≠B0:=by omega
 have HW:=Aside0.mk hw0
 have HBB:=Aside0.mk hB
 have hb0:b<B0:=by omega
 clear G hlt hw0 hB hM
 rcases hF with rfl | rfl | rfl | rfl | rfl | rfl | rfl | rfl
 all_goals
  go_enter Tryz.func91,Tryz.ntmps91
  go_wp2
  rw [<- HW.out,<- HBB.out]
  rw [<- HBB.out] at HB0 HM0
  go_loopw [6] (fun v wr=>∃ i:Nat,i<=n/\v=.int .i64 (i:Int)/\Aside0 (Grid wr g b n n (turned m f i 0))/\Aside0 (Turn w0 wr b)) (fun v _=>(n-intOf v).toNat)
  case atStart=>exact⟨0,by omega,rfl,⟨HG0.out.congr fun x y _ _=>by unfold turned;rw [if_neg (by omega)]⟩,⟨Turn.refl _ _⟩⟩
  case round=>
   obtain⟨i,hi,rfl,HG,HT⟩:=hrel
   by_cases hlt:i<n
   ·go_wp2
    obtain⟨wo,rfl⟩:∃ wo:World,wo=wr:=⟨_,rfl⟩
    go_loopw [7] (fun v wi=>∃ j:Nat,j<=n/\v=.int .i64 (j:Int)/\Aside0 (Grid wi g b n n (turned m f i j))/\Aside0 (Turn w0 wi b)) (fun v _=>(n-intOf v).toNat)
    case atStart=>exact⟨0,by omega,rfl,HG,HT⟩
    case round=>
     obtain⟨j,hj,rfl,HGi,HTi⟩:=hrel
     by_cases hltj:j<n
     ·have hmb:=HTi.out.blk HM0.out (by omega)
      have c0:=hmb.cell 0
      have kc:=HMASK.out i j wr (by omega) (by omega)
      clear hmb
      cases hbit:maskB m j i with
      | true=>
       rw [hbit] at kc
       have HBIT:=Aside0.mk hbit
       clear hbit
       go_wp2_with (first | (go_at_call 140;refine (gridFlip _ g b n n _ j i HGi.out hltj hlt hn hn).mono ?_;rintro e w' ⟨rfl,hG2,hT2⟩) | ((first | go_at_call 132 | go_at_call 133 | go_at_call 134 | go_at_call 135 | go_at_call 136 | go_at_call 137 | go_at_call 138 | go_at_call 139);refine kc.mono ?_;rintro e w' ⟨rfl,rfl⟩))
       go_roundw
       case rel=>exact⟨j+1,by omega,by go_num,⟨hG2.congr fun x y hx hy=>by
        unfold turned
        by_cases e:x=j/\y=i
        ·rw [if_pos e,if_neg (by omega),if_pos (by omega),e.1,e.2,HBIT.out];cases f j i<;>rfl
        ·rw [if_neg e]
         by_cases e2:y<i\/y=i/\x<j
         ·rw [if_pos e2,if_pos (by omega)]
         ·rw [if_neg e2,if_neg (by omega)]⟩,⟨HTi.out.trans hT2⟩⟩
       case measure=>simp [intOf];omega
      | false=>
       rw [hbit] at kc
       have HBIT:=Aside0.mk hbit
       clear hbit
       go_wp2_with ((first | go_at_call 132 | go_at_call 133 | go_at_call 134 | go_at_call 135 | go_at_call 136 | go_at_call 137 | go_at_call 138 | go_at_call 139);refine kc.mono ?_;rintro e w' ⟨rfl,rfl⟩)
       go_roundw
       case rel=>exact⟨j+1,by omega,by go_num,⟨HGi.out.congr fun x y hx hy=>by
        unfold turned
        by_cases e:x=j/\y=i
        ·rw [if_neg (by omega),if_pos (by omega),e.1,e.2,HBIT.out];cases f j i<;>rfl
        ·by_cases e2:y<i\/y=i/\x<j
         ·rw [if_pos e2,if_pos (by omega)]
         ·rw [if_neg e2,if_neg (by omega)]⟩,HTi⟩
       case measure=>simp [intOf];omega
     ·have:j=n:=by omega
      subst this
      go_wp2
      go_roundw
      case rel=>exact⟨i+1,by omega,by go_num,⟨HGi.out.congr fun x y hx hy=>by
       unfold turned
       by_cases e2:y<i\/y=i/\x<j
       ·rw [if_pos e2,if_pos (by omega)]
       ·rw [if_neg e2,if_neg (by omega)]⟩,HTi⟩
      case measure=>simp [intOf];omega
   ·have:i=n:=by omega
    subst this
    go_wp2
    go_end0
    refine⟨rfl,HG.out.congr fun x y hx hy=>by unfold turned;rw [if_pos (by omega)],?_⟩
    have hb':Below w.heap.size w w0:=by rw [<- HBB.out];exact HB0.out
    exact (Upd.of_below hb' b).trans (Upd.of_turn HT.out)
theorem unmask (w:World)(m g b n:Nat)(f:Nat->Nat->Bool)(hm:m<8)(G:Grid w g b n n f)(hn:n<=1000) :
  Calls Tryz.prog 91 #[.agg #[maskV m],.pointer (some ⟨g,0,none⟩),.int .i64 (n:Int)] w fun e w'=>e=.returned (.tuple #[])/\Grid w' g b n n (fun x y=>f x y != maskB m x y)/\Upd w w' b :=
 unmaskF w (132+m) m g b n f (maskOf m hm) (by omega) G hn
end Go.Proofs.YtgccjgpdjkhpdaaGreat.B
