import Derived.Test.YtgccjgpdjkhpdaaGreatVBack34
/-! Own texts of this claim, part 35. -/
namespace Go.Proofs.YtgccjgpdjkhpdaaGreat.F
open Go.RowKit Go.Proofs.YtgccjgpdjkhpdaaGreatW.PrintWords Go.Proofs.YtgccjgpdjkhpdaaGreatW.PrintLast Go.Proofs.YtgccjgpdjkhpdaaGreatW.PrintMore
attribute [local go_sem] max2_int min2_int max_two min_two max_three min_three max_four min_four
set_option linter.unusedVariables false
set_option linter.unusedSimpArgs false
def spec_QRMaskBit.f (a0:Int)(a1:Int)(a2:Int):Option (Bool):=if a0=0 then (some ((Int.tmod (wrap64 (a1+a2)) 2)==0)) else (if a0=1 then (some ((Int.tmod a2 2)==0)) else (if a0=2 then (some ((Int.tmod a1 3)==0)) else (if a0=3 then (some ((Int.tmod (wrap64 (a1+a2)) 3)==0)) else (if a0=4 then (some ((Int.tmod (wrap64 ((wrap64 (Int.tdiv a2 2))+(wrap64 (Int.tdiv a1 3)))) 2)==0)) else (if a0=5 then (some ((wrap64 ((Int.tmod (wrap64 (a1*a2)) 2)+(Int.tmod (wrap64 (a1*a2)) 3)))==0)) else (if a0=6 then (some ((Int.tmod (wrap64 ((Int.tmod (wrap64 (a1*a2)) 2)+(Int.tmod (wrap64 (a1*a2)) 3))) 2)==0)) else (some ((Int.tmod (wrap64 ((Int.tmod (wrap64 (a1+a2)) 2)+(Int.tmod (wrap64 (a1*a2)) 3))) 2)==0))))))))
set_option maxHeartbeats 8000000 in
set_option maxRecDepth 100000 in
theorem spec_QRMaskBit.calls (a0:Int)(a1:Int)(a2:Int)(r:Bool)(w:World)(h:spec_QRMaskBit.f a0 a1 a2=some r) :
  Calls Tryz.prog 65 #[.int .i64 a0,.int .i64 a1,.int .i64 a2] w fun e w'=>e=.returned (.bool r)/\Drawn0 w w':=by
 have H:(if a0=0 then (some ((Int.tmod (wrap64 (a1+a2)) 2)==0)) else (if a0=1 then (some ((Int.tmod a2 2)==0)) else (if a0=2 then (some ((Int.tmod a1 3)==0)) else (if a0=3 then (some ((Int.tmod (wrap64 (a1+a2)) 3)==0)) else (if a0=4 then (some ((Int.tmod (wrap64 ((wrap64 (Int.tdiv a2 2))+(wrap64 (Int.tdiv a1 3)))) 2)==0)) else (if a0=5 then (some ((wrap64 ((Int.tmod (wrap64 (a1*a2)) 2)+(Int.tmod (wrap64 (a1*a2)) 3)))==0)) else (if a0=6 then (some ((Int.tmod (wrap64 ((Int.tmod (wrap64 (a1*a2)) 2)+(Int.tmod (wrap64 (a1*a2)) 3))) 2)==0)) else (some ((Int.tmod (wrap64 ((Int.tmod (wrap64 (a1+a2)) 2)+(Int.tmod (wrap64 (a1*a2)) 3))) 2)==0)))))))))=some r:=h
 clear h
 by_cases c4:a0=0
 ·rw [if_pos c4] at H
  have c4b0:(a0==0)=true:=beq_iff_eq.mpr c4
  have c4b1:(a0 != 0)=false:=bne_eq_false_iff_eq.mpr c4
  clear c4
  obtain rfl:=Option.some.inj H
  go_enter Tryz.func65,Tryz.ntmps65
  go_wp2
  go_ret
  exact⟨by first | rfl | (simp;done) | (simp [*];done),by repeat (first | exact Drawn0.refl _ | apply Drawn0.step)⟩
 ·rw [if_neg c4] at H
  have c4b0:(a0==0)=false:=beq_eq_false_iff_ne.mpr c4
  have c4b1:(a0 != 0)=true:=bne_iff_ne.mpr c4
  by_cases c5:a0=1
  ·rw [if_pos c5] at H
   have c5b0:(a0==1)=true:=beq_iff_eq.mpr c5
   have c5b1:(a0 != 1)=false:=bne_eq_false_iff_eq.mpr c5
   clear c5
   obtain rfl:=Option.some.inj H
   go_enter Tryz.func65,Tryz.ntmps65
   go_wp2
   go_ret
   exact⟨by first | rfl | (simp;done) | (simp [*];done),by repeat (first | exact Drawn0.refl _ | apply Drawn0.step)⟩
  ·rw [if_neg c5] at H
   have c5b0:(a0==1)=false:=beq_eq_false_iff_ne.mpr c5
   have c5b1:(a0 != 1)=true:=bne_iff_ne.mpr c5
   by_cases c6:a0=2
   ·rw [if_pos c6] at H
    have c6b0:(a0==2)=true:=beq_iff_eq.mpr c6
    have c6b1:(a0 != 2)=false:=bne_eq_false_iff_eq.mpr c6
    clear c6
    obtain rfl:=Option.some.inj H
    go_enter Tryz.func65,Tryz.ntmps65
    go_wp2
    go_ret
    exact⟨by first | rfl | (simp;done) | (simp [*];done),by repeat (first | exact Drawn0.refl _ | apply Drawn0.step)⟩
   ·rw [if_neg c6] at H
    have c6b0:(a0==2)=false:=beq_eq_false_iff_ne.mpr c6
    have c6b1:(a0 != 2)=true:=bne_iff_ne.mpr c6
    by_cases c7:a0=3
    ·rw [if_pos c7] at H
     have c7b0:(a0==3)=true:=beq_iff_eq.mpr c7
     have c7b1:(a0 != 3)=false:=bne_eq_false_iff_eq.mpr c7
     clear c7
     obtain rfl:=Option.some.inj H
     go_enter Tryz.func65,Tryz.ntmps65
     go_wp2
     go_ret
     exact⟨by first | rfl | (simp;done) | (simp [*];done),by repeat (first | exact Drawn0.refl _ | apply Drawn0.step)⟩
    ·rw [if_neg c7] at H
     have c7b0:(a0==3)=false:=beq_eq_false_iff_ne.mpr c7
     have c7b1:(a0 != 3)=true:=bne_iff_ne.mpr c7
     by_cases c8:a0=4
     ·rw [if_pos c8] at H
      have c8b0:(a0==4)=true:=beq_iff_eq.mpr c8
      have c8b1:(a0 != 4)=false:=bne_eq_false_iff_eq.mpr c8
      clear c8
      obtain rfl:=Option.some.inj H
      go_enter Tryz.func65,Tryz.ntmps65
      go_wp2
      go_ret
      exact⟨by first | rfl | (simp;done) | (simp [*];done),by repeat (first | exact Drawn0.refl _ | apply Drawn0.step)⟩
     ·rw [if_neg c8] at H
      have c8b0:(a0==4)=false:=beq_eq_false_iff_ne.mpr c8
      have c8b1:(a0 != 4)=true:=bne_iff_ne.mpr c8
      by_cases c9:a0=5
      ·rw [if_pos c9] at H
       have c9b0:(a0==5)=true:=beq_iff_eq.mpr c9
       have c9b1:(a0 != 5)=false:=bne_eq_false_iff_eq.mpr c9
       clear c9
       obtain rfl:=Option.some.inj H
       go_enter Tryz.func65,Tryz.ntmps65
       go_wp2
       go_ret
       exact⟨by first | rfl | (simp;done) | (simp [*];done),by repeat (first | exact Drawn0.refl _ | apply Drawn0.step)⟩
      ·rw [if_neg c9] at H
       have c9b0:(a0==5)=false:=beq_eq_false_iff_ne.mpr c9
       have c9b1:(a0 != 5)=true:=bne_iff_ne.mpr c9
       by_cases c10:a0=6
       ·rw [if_pos c10] at H
        have c10b0:(a0==6)=true:=beq_iff_eq.mpr c10
        have c10b1:(a0 != 6)=false:=bne_eq_false_iff_eq.mpr c10
        clear c10
        obtain rfl:=Option.some.inj H
        go_enter Tryz.func65,Tryz.ntmps65
        go_wp2
        go_ret
        exact⟨by first | rfl | (simp;done) | (simp [*];done),by repeat (first | exact Drawn0.refl _ | apply Drawn0.step)⟩
       ·rw [if_neg c10] at H
        have c10b0:(a0==6)=false:=beq_eq_false_iff_ne.mpr c10
        have c10b1:(a0 != 6)=true:=bne_iff_ne.mpr c10
        obtain rfl:=Option.some.inj H
        go_enter Tryz.func65,Tryz.ntmps65
        go_wp2
        go_ret
        exact⟨by first | rfl | (simp;done) | (simp [*];done),by repeat (first | exact Drawn0.refl _ | apply Drawn0.step)⟩
end Go.Proofs.YtgccjgpdjkhpdaaGreat.F
namespace Go.Proofs.YtgccjgpdjkhpdaaGreat.B
open Go.RowKit Go.Proofs.YtgccjgpdjkhpdaaGreatW.PrintWords Go.Proofs.YtgccjgpdjkhpdaaGreatW.PrintLast Go.Proofs.YtgccjgpdjkhpdaaGreatW.PrintMore
set_option linter.unusedVariables false
set_option linter.unusedSimpArgs false
theorem mask_eq (m x y:Nat)(hm:m<8)(hx:x<200)(hy:y<200):F.spec_QRMaskBit.f m x y=some (maskB m x y):=by
 have hxy:x*y<=40000:=Nat.le_trans (Nat.mul_le_mul (show x<=200 by omega) (show y<=200 by omega)) (by decide)
 have tm:∀ a k:Nat,Int.tmod (a:Int) (k:Int)=((a%k:Nat):Int):=fun a k=>rfl
 have td:∀ a k:Nat,Int.tdiv (a:Int) (k:Int)=((a/k:Nat):Int):=fun a k=>rfl
 have hs:wrap64 ((x:Int)+(y:Int))=((x+y:Nat):Int):=by rw [w64q _ (by omega) (by omega)];omega
 have hp:wrap64 ((x:Int)*(y:Int))=((x*y:Nat):Int):=by
  have e:(x:Int)*(y:Int)=((x*y:Nat):Int):=by rw [Int.natCast_mul]
  rw [e,w64q _ (by omega) (by omega)]
 obtain⟨p,hpp⟩:∃ p,x*y=p:=⟨_,rfl⟩
 rw [hpp] at hp hxy
 have two:(2:Int)=((2:Nat):Int):=rfl
 have three:(3:Int)=((3:Nat):Int):=rfl
 have bq:∀ (a:Nat),((a:Int)==0)=decide (a=0):=fun a=>by
  by_cases h:a=0
  ·subst h;rfl
  ·rw [decide_eq_false h,beq_eq_false_iff_ne];omega
 unfold F.spec_QRMaskBit.f
 rw [hs,hp,two,three]
 match m,hm with
 | 0,_=>rw [if_pos (by decide),tm,bq];rfl
 | 1,_=>rw [if_neg (by decide),if_pos (by decide),tm,bq];rfl
 | 2,_=>rw [if_neg (by decide),if_neg (by decide),if_pos (by decide),tm,bq];rfl
 | 3,_=>rw [if_neg (by decide),if_neg (by decide),if_neg (by decide),if_pos (by decide),tm,bq];rfl
 | 4,_=>
  rw [if_neg (by decide),if_neg (by decide),if_neg (by decide),if_neg (by decide),if_pos (by decide),td,td,w64q ((y/2:Nat):Int) (by omega) (by omega),w64q ((x/3:Nat):Int) (by omega) (by omega),w64q _ (by omega) (by omega),<- Int.natCast_add,tm,bq]
  rfl
 | 5,_=>
  rw [if_neg (by decide),if_neg (by decide),if_neg (by decide),if_neg (by decide),if_neg (by decide),if_pos (by decide),tm,tm,w64q _ (by omega) (by omega),<- Int.natCast_add,bq,<- hpp]
  rfl
 | 6,_=>
  rw [if_neg (by decide),if_neg (by decide),if_neg (by decide),if_neg (by decide),if_neg (by decide),if_neg (by decide),if_pos (by decide),tm,tm,w64q _ (by omega) (by omega),<- Int.natCast_add,tm,bq,<- hpp]
  rfl
 | 7,_=>
  rw [if_neg (by decide),if_neg (by decide),if_neg (by decide),if_neg (by decide),if_neg (by decide),if_neg (by decide),if_neg (by decide),tm,tm,w64q _ (by omega) (by omega),<- Int.natCast_add,tm,bq,<- hpp]
  rfl
theorem maskBit (w:World)(m x y:Nat)(hm:m<8)(hx:x<200)(hy:y<200):Calls Tryz.prog 65 #[.int .i64 (m:Int),.int .i64 (x:Int),.int .i64 (y:Int)] w fun e w'=>e=.returned (.bool (maskB m x y))/\Drawn0 w w' :=
 F.spec_QRMaskBit.calls m x y _ w (mask_eq m x y hm hx hy)
theorem wayF_lt (n:Nat)(g:Nat->Nat->Bool)(p:Nat×Nat)(h:p∈way n g)(hn:1<=n)(ho:n%2=1):p.1<n/\p.2<n:=by
 obtain⟨h1,h2,h3,_⟩:=wayF_mem n g p _ _ _ h
 refine⟨h3,?_⟩
 have:fixR (n-1)<=n-1:=by unfold fixR;split<;>omega
 omega
theorem putAll_snoc (bit:Nat->Nat×Nat->Bool):∀ (l:List (Nat×Nat)) (p:Nat×Nat) (i:Nat) (f:Nat->Nat->Bool),putAll bit (l++[p]) i f=fun r c=>if r=p.1/\c=p.2 then bit (i+l.length) p else putAll bit l i f r c:=by
 intro l
 induction l with
 | nil=>intro p i f;rfl
 | cons q l ih=>
  intro p i f
  rw [List.cons_append,putAll,ih,putAll,show i+1+l.length=i+(q :: l).length by simp;omega]
def modBit (bits:List Bool)(m:Nat)(i:Nat)(p:Nat×Nat):Bool:=bits.getD i false != maskB m p.2 p.1
theorem way_cells {w:World}{base m c:Nat}{A:Option Addr}{xs:List (Nat×Nat)}(h:w.ownsRow base 118 2 (.slice A m c) m (wayCells xs))(hm:m=xs.length)(h0:0<m) :
  ∃ q CS,A=some ⟨q,0,none⟩/\Blk w q 118 CS/\m<=c/\∀ i,i<m->CS[i*2]? = some (.int .i64 ((xs.getD i (0,0)).1:Int))/\CS[i*2+1]? = some (.int .i64 ((xs.getD i (0,0)).2:Int)):=by
 obtain⟨hlen,h2⟩:=h
 rcases h2 with⟨_,h3⟩ | ⟨q,c',cs,hv,hb,hh,hc,hmx,hs,ht⟩
 ·omega
 ·injection hv with hA _ hcc
  subst hcc
  refine⟨q,cs,hA,hh,hc,fun i hi=>?_⟩
  have hget:∀ (ys:List (Nat×Nat)) (i:Nat),i<ys.length->(wayCells ys)[i*2]? = some (.int .i64 ((ys.getD i (0,0)).1:Int))/\(wayCells ys)[i*2+1]? = some (.int .i64 ((ys.getD i (0,0)).2:Int)):=by
   intro ys
   induction ys with
   | nil=>intro i hi;simp at hi
   | cons y ys ih=>
    intro i hi
    cases i with
    | zero=>exact⟨rfl,rfl⟩
    | succ i=>
     have:=ih i (by simpa using hi)
     rw [show (i+1)*2=i*2+1+1 by omega]
     unfold wayCells
     rw [List.flatMap_cons]
     simpa [wayCells] using this
  obtain⟨g1,g2⟩:=hget xs i (by omega)
  rw [<- ht] at g1 g2
  rw [List.getElem?_take_of_lt (by omega)] at g1 g2
  rw [<- Array.getElem?_toList,<- Array.getElem?_toList]
  exact⟨g1,g2⟩
theorem pat_mods (w:World)(v l m n:Nat)(cf:Nat->Nat->Bool)(hn:17+4*v=n)(hn1:1<=n)(hp:Ev (fun k=>F.spec_QRPatterns.f k v l m) (rowsOfB n cf n)) :
  Calls Tryz.prog 15 #[.int .i64 (v:Int),.int .i64 (l:Int),.int .i64 (m:Int)] w fun e w'=>∃ g cap q cp,e=.returned (.slice (some ⟨g,0,none⟩) n cap)/\(n<=cap/\cp n=cap)/\Brows w' w.heap.size g n q cp cf/\Below w.heap.size w w':=by
 obtain⟨kk,hkk⟩:=hp.rounds
 refine (F.spec_QRPatterns.calls kk v l m _ w hkk).mono ?_
 rintro e w' ⟨v0,rfl,hS,hb⟩
 obtain⟨g,cap,q,cp,rfl,hc,hbr⟩:=rows_open hS hn1
 exact⟨g,cap,q,cp,rfl,hc,hbr,hb⟩
set_option maxHeartbeats 4000000 in
set_option maxRecDepth 8000 in
theorem mods28 (w:World)(v l m qb nb cb:Nat)(bits:List Bool)(cf:Nat->Nat->Bool)(hv:1<=v/\v<=40)(hm:m<8)(hbn:bits.length=nb)(hq:qb<w.heap.size)(hb:∀ i,i<nb->w.cell? ⟨qb,i,none⟩=some (.bool (bits.getD i false)))
  (hp:Ev (fun k=>F.spec_QRPatterns.f k v l m) (rowsOfB (17+4*v) cf (17+4*v))) :
  Calls Tryz.prog 28 #[.slice (some ⟨qb,0,none⟩) nb cb,.int .i64 (v:Int),.int .i64 (l:Int),.int .i64 (m:Int)] w fun e w'=>∃ g cap q cp,e=.returned (.slice (some ⟨g,0,none⟩) (17+4*v) cap)/\(17+4*v<=cap/\cp (17+4*v)=cap)/\
   Brows w' w.heap.size g (17+4*v) q cp (putAll (modBit bits m) (way (17+4*v) (fpB v (ctrs v))) 0 cf)/\Below w.heap.size w w':=by
 have KW:=Aside0.mk (fun W=>way64 W v hv)
 obtain⟨n,hn⟩:∃ n,17+4*v=n:=⟨_,rfl⟩
 have hn1:1<=n:=by omega
 have hodd:n%2=1:=by omega
 have hn2:n<200:=by omega
 rw [hn] at hp
 have kp:=pat_mods w v l m n cf hn hn1 hp
 have hwl:=way_len v hv
 have hrm:=(tot_row v hv).2
 have hr0:0<roomN v:=by
  have L:=lay_at v 0 hv (by decide)
  have h1:=L.tot
  have h2:0<lvD v 0*(lvC v 0+lvC2 v 0):=Nat.mul_pos L.d1 (by have:=L.c1;omega)
  omega
 rw [hn] at KW hwl ⊢
 obtain⟨xs,hxs⟩:∃ xs,way n (fpB v (ctrs v))=xs:=⟨_,rfl⟩
 have hin:∀ p,p∈xs->p.1<n/\p.2<n:=fun p hp=>by rw [<- hxs] at hp;exact wayF_lt n _ p hp hn1 hodd
 rw [hxs] at KW hwl ⊢
 clear hxs hp hn
 have HB_:=Aside0.mk hb
 have HQ:=Aside0.mk hq
 have HIN:=Aside0.mk hin
 have HBN:=Aside0.mk hbn
 have HM8:=Aside0.mk hm
 clear hb hq hin hbn hm
 go_enter Tryz.func28,Tryz.ntmps28
 go_wp2_with (first | (go_at_call 15;refine kp.mono ?_;rintro e0 w1 ⟨gg,cg,q,cp,rfl,hcg,hbr,hb1⟩;have HBR:=Aside0.mk hbr;have HB1:=Aside0.mk hb1;clear hbr hb1) | (go_at_call 64;refine (KW.out _).mono ?_;rintro e0 w2 ⟨A,M,cM,rfl,hM,ho,hb2⟩;obtain⟨qw,CS,hA,hblk,hMc,hcs⟩:=way_cells ho hM (by omega);subst hA;have HCS:=Aside0.mk hcs;have HBLK:=Aside0.mk hblk;have HM:=Aside0.mk hM;have HB2:=Aside0.mk (HB1.out.trans (hb2.mono HB1.out.size));have HBR2:=Aside0.mk (HBR.out.below hb2 (Nat.le_refl _));clear ho hb2 hcs hblk hM))
 clear kp HBR
 have hM5:M<=40000:=by rw [HM.out,hwl];exact hrm
 clear hwl hrm hr0
 go_loopw [20] (fun vi wr=>∃ i:Nat,vi=.int .i64 (i:Int)/\i<=M/\Aside0 (Brows wr w.heap.size gg n q cp (putAll (modBit bits m) (xs.take i) 0 cf))/\Aside0 (Blk wr qw 118 CS)/\Aside0 (Below w.heap.size w wr)) (fun vi _=>(M-intOf vi).toNat)
 case atStart=>exact⟨0,rfl,Nat.zero_le _,HBR2,HBLK,HB2⟩
 case round=>
  clear HBR2 HBLK HB2
  obtain⟨i,rfl,hi,HBR,HBLK,HB⟩:=hrel
  by_cases hiM:i<M
  ·obtain⟨p,hp⟩:∃ p,xs.getD i (0,0)=p:=⟨_,rfl⟩
   obtain⟨r,c⟩:=p
   obtain⟨c1,c2⟩:=HCS.out i hiM
   rw [hp] at c1 c2
   have hmem:(r,c)∈xs:=by
    rw [<- hp,List.getD_eq_getElem?_getD,List.getElem?_eq_getElem (by rw [<- HM.out];exact hiM)]
    exact List.getElem_mem _
   obtain⟨hrn,hcn⟩:=HIN.out _ hmem
   have r0:wr.cell? ⟨qw,i*2,none⟩=some (.int .i64 (r:Int)):=(Blk.cell HBLK.out (i*2)).trans c1
   have r1:wr.cell? ⟨qw,i*2+1,none⟩=some (.int .i64 (c:Int)):=(Blk.cell HBLK.out (i*2+1)).trans c2
   have htk:xs.take (i+1)=xs.take i++[(r,c)]:=by
    rw [List.take_succ_eq_append_getElem (by rw [<- HM.out];exact hiM)]
    congr 2
    rw [List.getD_eq_getElem?_getD,List.getElem?_eq_getElem (by rw [<- HM.out];exact hiM)] at hp
    exact hp
   have HNX:=Aside0.mk (show putAll (modBit bits m) (xs.take (i+1)) 0 cf=fun r' c'=>if r'=r/\c'=c then modBit bits m i (r,c) else putAll (modBit bits m) (xs.take i) 0 cf r' c' by
    rw [htk,putAll_snoc,Nat.zero_add,List.length_take,Nat.min_eq_left (by rw [<- HM.out];exact hi)])
   have hbit:i<nb->wr.cell? ⟨qb,i,none⟩=some (.bool (bits.getD i false)):=fun h=>(HB.out.cell (p:=⟨qb,i,none⟩) HQ.out).trans (HB_.out i h)
   have hbit2:¬ i<nb->bits.getD i false=false:=fun h=>by rw [List.getD_eq_getElem?_getD,List.getElem?_eq_none (by rw [HBN.out];omega)];rfl
   obtain⟨b,hbb⟩:∃ b,bits.getD i false=b:=⟨_,rfl⟩
   rw [hbb] at hbit hbit2
   have HMB:=Aside0.mk (show modBit bits m i (r,c)=(b != maskB m c r) by unfold modBit;rw [hbb])
   clear hp c1 c2 hmem htk hbb
   obtain⟨o,ho⟩:∃ o,o=Obj.cells #[.int .i64 (r:Int),.int .i64 (c:Int)] 118:=⟨_,rfl⟩
   have hBR3:=HBR.out.below (below_alloc (Below.refl _ _) o) (Nat.le_refl _)
   obtain⟨z1,zb,zc,⟨zcs,zk⟩,z2⟩:=hBR3.row r hrn
   have z3:=z2 c hcn
   have z4:(wr.alloc o).frozen? ⟨q r,c,none⟩=false:=Blk.frozen zk c
   have zn:Blk (wr.alloc o) wr.heap.size 118 #[.int .i64 (r:Int),.int .i64 (c:Int)]:=by rw [ho];exact Blk.new _ _ _
   have z5:(wr.alloc o).cell? ⟨wr.heap.size,0,none⟩=some (.int .i64 (r:Int)):=Blk.cell zn 0
   have z6:(wr.alloc o).cell? ⟨wr.heap.size,1,none⟩=some (.int .i64 (c:Int)):=Blk.cell zn 1
   have HF:=Aside0.mk (show ∀ W u,Below (wr.alloc o).heap.size (wr.alloc o) W->u=modBit bits m i (r,c)->Brows (W.setCell ⟨q r,c,none⟩ (.bool u)) w.heap.size gg n q cp (putAll (modBit bits m) (xs.take (i+1)) 0 cf)/\Blk (W.setCell ⟨q r,c,none⟩ (.bool u)) qw 118 CS/\Below w.heap.size w (W.setCell ⟨q r,c,none⟩ (.bool u)) from fun W u hW hu=>by
    have hbr:=(hBR3.below hW (Nat.le_refl _)).set r c u hrn hcn
    have hblk:=(HBLK.out.alloc o).below hW (Blk.lt (HBLK.out.alloc o))
    have hzk:=zk.below hW (Blk.lt zk)
    refine⟨?_,hblk.far (p:=⟨q r,c,none⟩) (blk_ne hblk hzk (by decide)) _,Below.setc ((HB.out.alloc HB.out.size o).trans (hW.mono ?_)) zb _⟩
    ·rw [HNX.out]
     rw [hu] at hbr ⊢
     exact hbr
    ·exact Nat.le_trans HB.out.size (below_alloc (Below.refl wr.heap.size wr) o).size)
   have r2:i<nb->(wr.alloc o).cell? ⟨qb,i,none⟩=some (.bool b):=fun h=>cell_on (below_alloc (Below.refl _ _) o) (hbit h)
   obtain⟨qr,hqr⟩:∃ qr,q r=qr:=⟨_,rfl⟩
   obtain⟨cr,hcr⟩:∃ cr,cp r=cr:=⟨_,rfl⟩
   rw [hqr,hcr] at z1
   rw [hqr] at z3 z4 HF
   obtain⟨old,hold⟩:∃ old,putAll (modBit bits m) (xs.take i) 0 cf r c=old:=⟨_,rfl⟩
   rw [hold] at z3
   have KM:=Aside0.mk (fun W=>maskBit W m c r HM8.out (by omega) (by omega))
   obtain⟨mb,hmb⟩:∃ mb,maskB m c r=mb:=⟨_,rfl⟩
   rw [hmb] at KM HMB
   have HBLK':=HBLK
   clear hBR3 zb zc zk z2 zn hbit HNX HBR HBLK HB hqr hcr hold hmb
   subst ho
   by_cases hin:i<nb
   ·have r2:=r2 hin
    clear hbit2
    go_wp2
    clear r0 r1 r2
    obtain⟨w3,hw3⟩:∃ w3,w3=wr.alloc (Obj.cells #[.int .i64 (r:Int),.int .i64 (c:Int)] 118):=⟨_,rfl⟩
    rw [<- hw3] at z1 z3 z4 z5 z6 HF ⊢
    obtain⟨pn,hpn⟩:∃ pn,pn=wr.heap.size:=⟨_,rfl⟩
    rw [<- hpn] at z5 z6 ⊢
    clear hw3 hpn
    have km:∀ W,Calls Tryz.prog 65 #[.int .i64 (m:Int),.int .i64 (c:Int),.int .i64 (r:Int)] W fun e w'=>e=.returned (.bool mb)/\∃ j,w'=W.drewN j:=fun W=>(KM.out W).mono fun _ _ h=>⟨h.1,h.2.out⟩
    have e1:=eq_true (show (0:Int)<=(r:Int) by omega)
    have e2:=eq_true (show (r:Int)<(n:Int) by omega)
    have e3:=eq_true (show (0:Int)<=(c:Int) by omega)
    have e4:=eq_true (show (c:Int)<(n:Int) by omega)
    have HFN:=Aside0.mk (fun k=>HF.out (w3.drewN k) (!b==mb) (pw_below_drewN (Below.refl _ _) k) (by rw [HMB.out];cases b<;>cases mb<;>rfl))
    refine start_ (n:=17) (S:=fun w'=>w'.cell? ⟨pn,0,none⟩=some (.int .i64 (r:Int))/\w'.cell? ⟨gg,r,none⟩=some (.slice (some ⟨qr,0,none⟩) n cr)/\w'.cell? ⟨pn,1,none⟩=some (.int .i64 (c:Int))) (ds:=[16]) #[false,false,false,false,false,false,false,false,false,false,false,false,false,false,false,false,false] (by kernel_rfl) rfl rfl ⟨z5,z1,z6⟩ (fun hHeld=>?_)
    refine with_tabW tab6 bits6 (fun HT_ HW_=>?_)
    refine pure_ (i:=0) (N:=some 35) (v:=?_) (a':=?_) #[true,false,false,false,false,false,false,false,false,false,false,false,false,false,false,false,false] rfl rfl (any_of HT_.out (by kernel_rfl)) (fun _ _ _ h=>h) (Or.inl ⟨by rfl,?_⟩) ?_ ?_
    rotate_left
    ·intro w'
     go_simp
     try with_reducible rfl
    rotate_left
    ·simp only [Act.put,List.setIfInBounds_toArray,List.set_cons_zero,List.set_cons_succ,i64_w,i32_w]
     rfl
    refine pure_ (i:=1) (N:=some 36) (v:=?_) (a':=?_) #[true,true,false,false,false,false,false,false,false,false,false,false,false,false,false,false,false] rfl rfl (any_of HT_.out (by kernel_rfl)) (fun _ _ _ h=>h) (Or.inl ⟨by rfl,?_⟩) ?_ ?_
    rotate_left
    ·intro w'
     go_simp
     try with_reducible rfl
    rotate_left
    ·simp only [Act.put,List.setIfInBounds_toArray,List.set_cons_zero,List.set_cons_succ,i64_w,i32_w]
     rfl
    refine pure_ (i:=5) (N:=some 40) (v:=?_) (a':=?_) #[true,true,false,false,false,true,false,false,false,false,false,false,false,false,false,false,false] rfl rfl (any_of HT_.out (by kernel_rfl)) (fun _ _ _ h=>h) (Or.inl ⟨by rfl,?_⟩) ?_ ?_
    rotate_left
    ·intro w'
     go_simp
     try with_reducible rfl
    rotate_left
    ·simp only [Act.put,List.setIfInBounds_toArray,List.set_cons_zero,List.set_cons_succ,i64_w,i32_w]
     rfl
    refine pure_ (i:=7) (N:=some 42) (v:=?_) (a':=?_) #[true,true,false,false,false,true,false,true,false,false,false,false,false,false,false,false,false] rfl rfl (any_of HT_.out (by kernel_rfl)) (fun _ _ _ h=>h) (Or.inl ⟨by rfl,?_⟩) ?_ ?_
    rotate_left
    ·intro w'
     go_simp
     try with_reducible rfl
    rotate_left
    ·simp only [Act.put,List.setIfInBounds_toArray,List.set_cons_zero,List.set_cons_succ,i64_w,i32_w]
     rfl
    refine pure_ (i:=8) (N:=some 43) (v:=?_) (a':=?_) #[true,true,false,false,false,true,false,true,true,false,false,false,false,false,false,false,false] rfl rfl (any_of HT_.out (by kernel_rfl)) (fun _ _ _ h=>h) (Or.inl ⟨by rfl,?_⟩) ?_ ?_
    rotate_left
    ·intro w'
     go_simp
     try with_reducible rfl
    rotate_left
    ·simp only [Act.put,List.setIfInBounds_toArray,List.set_cons_zero,List.set_cons_succ,i64_w,i32_w]
     rfl
    refine pure_ (i:=9) (N:=some 44) (v:=?_) (a':=?_) #[true,true,false,false,false,true,false,true,true,true,false,false,false,false,false,false,false] rfl rfl (any_of HT_.out (by kernel_rfl)) (fun _ _ _ h=>h) (Or.inl ⟨by rfl,?_⟩) ?_ ?_
    rotate_left
    ·intro w'
     go_simp
     try with_reducible rfl
    rotate_left
    ·simp only [Act.put,List.setIfInBounds_toArray,List.set_cons_zero,List.set_cons_succ,i64_w,i32_w]
     rfl
    refine pure_ (i:=11) (N:=some 46) (v:=?_) (a':=?_) #[true,true,false,false,false,true,false,true,true,true,false,true,false,false,false,false,false] rfl rfl (any_of HT_.out (by kernel_rfl)) (fun _ _ _ h=>h) (Or.inl ⟨by rfl,?_⟩) ?_ ?_
    rotate_left
    ·intro w'
     go_simp
     try with_reducible rfl
    rotate_left
    ·simp only [Act.put,List.setIfInBounds_toArray,List.set_cons_zero,List.set_cons_succ,i64_w,i32_w]
     rfl
    refine take_ (i:=2) (N:=some 37) (v:=?_) (a':=?_) #[true,true,true,false,false,true,false,true,true,true,false,true,false,false,false,false,false] rfl rfl (take_ofW HT_.out HW_.out (by kernel_rfl)) (fun _ _ _ h=>h) (Or.inl ⟨by rfl,?_⟩) hHeld ?_ ?_
    rotate_left
    ·intro w' s0
     obtain⟨s1,s2,s3⟩:=s0
     go_simp
     try with_reducible rfl
    rotate_left
    ·simp only [Act.put,List.setIfInBounds_toArray,List.set_cons_zero,List.set_cons_succ,i64_w,i32_w]
     rfl
    refine pure_ (i:=3) (N:=some 38) (v:=?_) (a':=?_) #[true,true,true,true,false,true,false,true,true,true,false,true,false,false,false,false,false] rfl rfl (any_of HT_.out (by kernel_rfl)) (fun _ _ _ h=>h) (Or.inl ⟨by rfl,?_⟩) ?_ ?_
    rotate_left
    ·intro w'
     go_simp
     try with_reducible rfl
    rotate_left
    ·simp only [Act.put,List.setIfInBounds_toArray,List.set_cons_zero,List.set_cons_succ,i64_w,i32_w]
     rfl
    refine take_ (i:=4) (N:=some 39) (v:=?_) (a':=?_) #[true,true,true,true,true,true,false,true,true,true,false,true,false,false,false,false,false] rfl rfl (take_ofW HT_.out HW_.out (by kernel_rfl)) (fun _ _ _ h=>h) (Or.inl ⟨by rfl,?_⟩) hHeld ?_ ?_
    rotate_left
    ·intro w' s0
     obtain⟨s1,s2,s3⟩:=s0
     go_simp
     try with_reducible rfl
    rotate_left
    ·simp only [Act.put,List.setIfInBounds_toArray,List.set_cons_zero,List.set_cons_succ,i64_w,i32_w]
     rfl
    refine take_ (i:=6) (N:=some 41) (v:=?_) (a':=?_) #[true,true,true,true,true,true,true,true,true,true,false,true,false,false,false,false,false] rfl rfl (take_ofW HT_.out HW_.out (by kernel_rfl)) (fun _ _ _ h=>h) (Or.inl ⟨by rfl,?_⟩) hHeld ?_ ?_
    rotate_left
    ·intro w' s0
     obtain⟨s1,s2,s3⟩:=s0
     go_simp
     try with_reducible rfl
    rotate_left
    ·simp only [Act.put,List.setIfInBounds_toArray,List.set_cons_zero,List.set_cons_succ,i64_w,i32_w]
     rfl
    refine take_ (i:=10) (N:=some 45) (v:=?_) (a':=?_) #[true,true,true,true,true,true,true,true,true,true,true,true,false,false,false,false,false] rfl rfl (take_ofW HT_.out HW_.out (by kernel_rfl)) (fun _ _ _ h=>h) (Or.inl ⟨by rfl,?_⟩) hHeld ?_ ?_
    rotate_left
    ·intro w' s0
     obtain⟨s1,s2,s3⟩:=s0
     go_simp
     try with_reducible rfl
    rotate_left
    ·simp only [Act.put,List.setIfInBounds_toArray,List.set_cons_zero,List.set_cons_succ,i64_w,i32_w]
     rfl
    refine take_ (i:=12) (N:=some 47) (v:=?_) (a':=?_) #[true,true,true,true,true,true,true,true,true,true,true,true,true,false,false,false,false] rfl rfl (take_ofW HT_.out HW_.out (by kernel_rfl)) (fun _ _ _ h=>h) (Or.inl ⟨by rfl,?_⟩) hHeld ?_ ?_
    rotate_left
    ·intro w' s0
     obtain⟨s1,s2,s3⟩:=s0
     go_simp
     try with_reducible rfl
    rotate_left
    ·simp only [Act.put,List.setIfInBounds_toArray,List.set_cons_zero,List.set_cons_succ,i64_w,i32_w]
     rfl
    refine one_ (i:=13) (N:=some 48) #[true,true,true,true,true,true,true,true,true,true,true,true,true,true,false,false,false] rfl rfl (one_of HT_.out (by kernel_rfl)) (by decide) (fun K hK=>?_)
    refine goes_ Tryz.func65 (by kernel_rfl) rfl #[.int .i64 (m:Int),.int .i64 (c:Int),.int .i64 (r:Int)] (by rfl) rfl rfl (by (try simp only [List.map_toArray,List.map_cons,List.map_nil]);first | done | rfl) ?_
    refine (km _).mono ?_
    rintro e0 w5 ⟨rfl,nd,rfl⟩
    refine⟨_,rfl,?_⟩
    refine hK.out _ _ ⟨z5,z1,z6⟩ (fun hHeld=>?_)
    clear hK K
    refine norm_ (a':=?_) ?_ ?_
    rotate_left
    ·show Act.put _ (some 48) _=_
     simp only [Act.put,List.setIfInBounds_toArray,List.set_cons_zero,List.set_cons_succ,i64_w,i32_w]
     rfl
    refine pure_ (i:=14) (N:=some 49) (v:=?_) (a':=?_) #[true,true,true,true,true,true,true,true,true,true,true,true,true,true,true,false,false] rfl rfl (any_of HT_.out (by kernel_rfl)) (fun _ _ _ h=>h) (Or.inl ⟨by rfl,?_⟩) ?_ ?_
    rotate_left
    ·intro w'
     go_simp
     try with_reducible rfl
    rotate_left
    ·simp only [Act.put,List.setIfInBounds_toArray,List.set_cons_zero,List.set_cons_succ,i64_w,i32_w]
     rfl
    refine pure_ (i:=15) (N:=some 50) (v:=?_) (a':=?_) #[true,true,true,true,true,true,true,true,true,true,true,true,true,true,true,true,false] rfl rfl (any_of HT_.out (by kernel_rfl)) (fun _ _ _ h=>h) (Or.inl ⟨by rfl,?_⟩) ?_ ?_
    rotate_left
    ·intro w'
     go_simp
     try with_reducible rfl
    rotate_left
    ·simp only [Act.put,List.setIfInBounds_toArray,List.set_cons_zero,List.set_cons_succ,i64_w,i32_w]
     rfl
    refine last_ (i:=16) (N:=none) #[true,true,true,true,true,true,true,true,true,true,true,true,true,true,true,true,true] rfl rfl (one_of HT_.out (by kernel_rfl)) (by decide) (fun K hK=>?_)
    refine skip_ (w1:=?_) (by rfl) rfl ?_ ?_
    rotate_left
    ·go_simp
     rfl
    refine hK.out _ _ ?_
    clear hK K
    refine done_ (done_of HT_.out (by kernel_rfl)) ?_
    clear z1 z3 z4 z5 z6 hHeld HT_ HW_ km e1 e2 e3 e4
    go_wp2
    go_roundw
    case rel=>first | exact⟨i+1,by go_num,by omega,⟨(HFN.out _).1⟩,⟨(HFN.out _).2.1⟩,⟨(HFN.out _).2.2⟩⟩ | ((repeat apply Exists.intro);exact⟨⟨i+1,by go_num,by omega,⟨(HFN.out _).1⟩,⟨(HFN.out _).2.1⟩,⟨(HFN.out _).2.2⟩⟩,rfl⟩)
    case measure=>show ((M:Int)-((i:Int)+1)).toNat<((M:Int)-(i:Int)).toNat;omega
   ·have hb0:=hbit2 hin
    subst hb0
    clear hbit2 r2
    go_wp2
    clear r0 r1
    obtain⟨w3,hw3⟩:∃ w3,w3=wr.alloc (Obj.cells #[.int .i64 (r:Int),.int .i64 (c:Int)] 118):=⟨_,rfl⟩
    rw [<- hw3] at z1 z3 z4 z5 z6 HF ⊢
    obtain⟨pn,hpn⟩:∃ pn,pn=wr.heap.size:=⟨_,rfl⟩
    rw [<- hpn] at z5 z6 ⊢
    clear hw3 hpn
    have km:∀ W,Calls Tryz.prog 65 #[.int .i64 (m:Int),.int .i64 (c:Int),.int .i64 (r:Int)] W fun e w'=>e=.returned (.bool mb)/\∃ j,w'=W.drewN j:=fun W=>(KM.out W).mono fun _ _ h=>⟨h.1,h.2.out⟩
    have e1:=eq_true (show (0:Int)<=(r:Int) by omega)
    have e2:=eq_true (show (r:Int)<(n:Int) by omega)
    have e3:=eq_true (show (0:Int)<=(c:Int) by omega)
    have e4:=eq_true (show (c:Int)<(n:Int) by omega)
    have HFN:=Aside0.mk (fun k=>HF.out (w3.drewN k) mb (pw_below_drewN (Below.refl _ _) k) (by rw [HMB.out];cases mb<;>rfl))
    refine start_ (n:=17) (S:=fun w'=>w'.cell? ⟨pn,0,none⟩=some (.int .i64 (r:Int))/\w'.cell? ⟨gg,r,none⟩=some (.slice (some ⟨qr,0,none⟩) n cr)/\w'.cell? ⟨pn,1,none⟩=some (.int .i64 (c:Int))) (ds:=[16]) #[false,false,false,false,false,false,false,false,false,false,false,false,false,false,false,false,false] (by kernel_rfl) rfl rfl ⟨z5,z1,z6⟩ (fun hHeld=>?_)
    refine with_tabW tab6 bits6 (fun HT_ HW_=>?_)
    refine pure_ (i:=0) (N:=some 35) (v:=?_) (a':=?_) #[true,false,false,false,false,false,false,false,false,false,false,false,false,false,false,false,false] rfl rfl (any_of HT_.out (by kernel_rfl)) (fun _ _ _ h=>h) (Or.inl ⟨by rfl,?_⟩) ?_ ?_
    rotate_left
    ·intro w'
     go_simp
     try with_reducible rfl
    rotate_left
    ·simp only [Act.put,List.setIfInBounds_toArray,List.set_cons_zero,List.set_cons_succ,i64_w,i32_w]
     rfl
    refine pure_ (i:=1) (N:=some 36) (v:=?_) (a':=?_) #[true,true,false,false,false,false,false,false,false,false,false,false,false,false,false,false,false] rfl rfl (any_of HT_.out (by kernel_rfl)) (fun _ _ _ h=>h) (Or.inl ⟨by rfl,?_⟩) ?_ ?_
    rotate_left
    ·intro w'
     go_simp
     try with_reducible rfl
    rotate_left
    ·simp only [Act.put,List.setIfInBounds_toArray,List.set_cons_zero,List.set_cons_succ,i64_w,i32_w]
     rfl
    refine pure_ (i:=5) (N:=some 40) (v:=?_) (a':=?_) #[true,true,false,false,false,true,false,false,false,false,false,false,false,false,false,false,false] rfl rfl (any_of HT_.out (by kernel_rfl)) (fun _ _ _ h=>h) (Or.inl ⟨by rfl,?_⟩) ?_ ?_
    rotate_left
    ·intro w'
     go_simp
     try with_reducible rfl
    rotate_left
    ·simp only [Act.put,List.setIfInBounds_toArray,List.set_cons_zero,List.set_cons_succ,i64_w,i32_w]
     rfl
    refine pure_ (i:=7) (N:=some 42) (v:=?_) (a':=?_) #[true,true,false,false,false,true,false,true,false,false,false,false,false,false,false,false,false] rfl rfl (any_of HT_.out (by kernel_rfl)) (fun _ _ _ h=>h) (Or.inl ⟨by rfl,?_⟩) ?_ ?_
    rotate_left
    ·intro w'
     go_simp
     try with_reducible rfl
    rotate_left
    ·simp only [Act.put,List.setIfInBounds_toArray,List.set_cons_zero,List.set_cons_succ,i64_w,i32_w]
     rfl
    refine pure_ (i:=8) (N:=some 43) (v:=?_) (a':=?_) #[true,true,false,false,false,true,false,true,true,false,false,false,false,false,false,false,false] rfl rfl (any_of HT_.out (by kernel_rfl)) (fun _ _ _ h=>h) (Or.inl ⟨by rfl,?_⟩) ?_ ?_
    rotate_left
    ·intro w'
     go_simp
     try with_reducible rfl
    rotate_left
    ·simp only [Act.put,List.setIfInBounds_toArray,List.set_cons_zero,List.set_cons_succ,i64_w,i32_w]
     rfl
    refine pure_ (i:=9) (N:=some 44) (v:=?_) (a':=?_) #[true,true,false,false,false,true,false,true,true,true,false,false,false,false,false,false,false] rfl rfl (any_of HT_.out (by kernel_rfl)) (fun _ _ _ h=>h) (Or.inl ⟨by rfl,?_⟩) ?_ ?_
    rotate_left
    ·intro w'
     go_simp
     try with_reducible rfl
    rotate_left
    ·simp only [Act.put,List.setIfInBounds_toArray,List.set_cons_zero,List.set_cons_succ,i64_w,i32_w]
     rfl
    refine pure_ (i:=11) (N:=some 46) (v:=?_) (a':=?_) #[true,true,false,false,false,true,false,true,true,true,false,true,false,false,false,false,false] rfl rfl (any_of HT_.out (by kernel_rfl)) (fun _ _ _ h=>h) (Or.inl ⟨by rfl,?_⟩) ?_ ?_
    rotate_left
    ·intro w'
     go_simp
     try with_reducible rfl
    rotate_left
    ·simp only [Act.put,List.setIfInBounds_toArray,List.set_cons_zero,List.set_cons_succ,i64_w,i32_w]
     rfl
    refine take_ (i:=2) (N:=some 37) (v:=?_) (a':=?_) #[true,true,true,false,false,true,false,true,true,true,false,true,false,false,false,false,false] rfl rfl (take_ofW HT_.out HW_.out (by kernel_rfl)) (fun _ _ _ h=>h) (Or.inl ⟨by rfl,?_⟩) hHeld ?_ ?_
    rotate_left
    ·intro w' s0
     obtain⟨s1,s2,s3⟩:=s0
     go_simp
     try with_reducible rfl
    rotate_left
    ·simp only [Act.put,List.setIfInBounds_toArray,List.set_cons_zero,List.set_cons_succ,i64_w,i32_w]
     rfl
    refine pure_ (i:=3) (N:=some 38) (v:=?_) (a':=?_) #[true,true,true,true,false,true,false,true,true,true,false,true,false,false,false,false,false] rfl rfl (any_of HT_.out (by kernel_rfl)) (fun _ _ _ h=>h) (Or.inl ⟨by rfl,?_⟩) ?_ ?_
    rotate_left
    ·intro w'
     go_simp
     try with_reducible rfl
    rotate_left
    ·simp only [Act.put,List.setIfInBounds_toArray,List.set_cons_zero,List.set_cons_succ,i64_w,i32_w]
     rfl
    refine take_ (i:=4) (N:=some 39) (v:=?_) (a':=?_) #[true,true,true,true,true,true,false,true,true,true,false,true,false,false,false,false,false] rfl rfl (take_ofW HT_.out HW_.out (by kernel_rfl)) (fun _ _ _ h=>h) (Or.inl ⟨by rfl,?_⟩) hHeld ?_ ?_
    rotate_left
    ·intro w' s0
     obtain⟨s1,s2,s3⟩:=s0
     go_simp
     try with_reducible rfl
    rotate_left
    ·simp only [Act.put,List.setIfInBounds_toArray,List.set_cons_zero,List.set_cons_succ,i64_w,i32_w]
     rfl
    refine take_ (i:=6) (N:=some 41) (v:=?_) (a':=?_) #[true,true,true,true,true,true,true,true,true,true,false,true,false,false,false,false,false] rfl rfl (take_ofW HT_.out HW_.out (by kernel_rfl)) (fun _ _ _ h=>h) (Or.inl ⟨by rfl,?_⟩) hHeld ?_ ?_
    rotate_left
    ·intro w' s0
     obtain⟨s1,s2,s3⟩:=s0
     go_simp
     try with_reducible rfl
    rotate_left
    ·simp only [Act.put,List.setIfInBounds_toArray,List.set_cons_zero,List.set_cons_succ,i64_w,i32_w]
     rfl
    refine take_ (i:=10) (N:=some 45) (v:=?_) (a':=?_) #[true,true,true,true,true,true,true,true,true,true,true,true,false,false,false,false,false] rfl rfl (take_ofW HT_.out HW_.out (by kernel_rfl)) (fun _ _ _ h=>h) (Or.inl ⟨by rfl,?_⟩) hHeld ?_ ?_
    rotate_left
    ·intro w' s0
     obtain⟨s1,s2,s3⟩:=s0
     go_simp
     try with_reducible rfl
    rotate_left
    ·simp only [Act.put,List.setIfInBounds_toArray,List.set_cons_zero,List.set_cons_succ,i64_w,i32_w]
     rfl
    refine take_ (i:=12) (N:=some 47) (v:=?_) (a':=?_) #[true,true,true,true,true,true,true,true,true,true,true,true,true,false,false,false,false] rfl rfl (take_ofW HT_.out HW_.out (by kernel_rfl)) (fun _ _ _ h=>h) (Or.inl ⟨by rfl,?_⟩) hHeld ?_ ?_
    rotate_left
    ·intro w' s0
     obtain⟨s1,s2,s3⟩:=s0
     go_simp
     try with_reducible rfl
    rotate_left
    ·simp only [Act.put,List.setIfInBounds_toArray,List.set_cons_zero,List.set_cons_succ,i64_w,i32_w]
     rfl
    refine one_ (i:=13) (N:=some 48) #[true,true,true,true,true,true,true,true,true,true,true,true,true,true,false,false,false] rfl rfl (one_of HT_.out (by kernel_rfl)) (by decide) (fun K hK=>?_)
    refine goes_ Tryz.func65 (by kernel_rfl) rfl #[.int .i64 (m:Int),.int .i64 (c:Int),.int .i64 (r:Int)] (by rfl) rfl rfl (by (try simp only [List.map_toArray,List.map_cons,List.map_nil]);first | done | rfl) ?_
    refine (km _).mono ?_
    rintro e0 w5 ⟨rfl,nd,rfl⟩
    refine⟨_,rfl,?_⟩
    refine hK.out _ _ ⟨z5,z1,z6⟩ (fun hHeld=>?_)
    clear hK K
    refine norm_ (a':=?_) ?_ ?_
    rotate_left
    ·show Act.put _ (some 48) _=_
     simp only [Act.put,List.setIfInBounds_toArray,List.set_cons_zero,List.set_cons_succ,i64_w,i32_w]
     rfl
    refine pure_ (i:=14) (N:=some 49) (v:=?_) (a':=?_) #[true,true,true,true,true,true,true,true,true,true,true,true,true,true,true,false,false] rfl rfl (any_of HT_.out (by kernel_rfl)) (fun _ _ _ h=>h) (Or.inl ⟨by rfl,?_⟩) ?_ ?_
    rotate_left
    ·intro w'
     go_simp
     try with_reducible rfl
    rotate_left
    ·simp only [Act.put,List.setIfInBounds_toArray,List.set_cons_zero,List.set_cons_succ,i64_w,i32_w]
     rfl
    refine pure_ (i:=15) (N:=some 50) (v:=?_) (a':=?_) #[true,true,true,true,true,true,true,true,true,true,true,true,true,true,true,true,false] rfl rfl (any_of HT_.out (by kernel_rfl)) (fun _ _ _ h=>h) (Or.inl ⟨by rfl,?_⟩) ?_ ?_
    rotate_left
    ·intro w'
     go_simp
     try with_reducible rfl
    rotate_left
    ·simp only [Act.put,List.setIfInBounds_toArray,List.set_cons_zero,List.set_cons_succ,i64_w,i32_w]
     rfl
    refine last_ (i:=16) (N:=none) #[true,true,true,true,true,true,true,true,true,true,true,true,true,true,true,true,true] rfl rfl (one_of HT_.out (by kernel_rfl)) (by decide) (fun K hK=>?_)
    refine skip_ (w1:=?_) (by rfl) rfl ?_ ?_
    rotate_left
    ·go_simp
     rfl
    refine hK.out _ _ ?_
    clear hK K
    refine done_ (done_of HT_.out (by kernel_rfl)) ?_
    clear z1 z3 z4 z5 z6 hHeld HT_ HW_ km e1 e2 e3 e4
    go_wp2
    go_roundw
    case rel=>first | exact⟨i+1,by go_num,by omega,⟨(HFN.out _).1⟩,⟨(HFN.out _).2.1⟩,⟨(HFN.out _).2.2⟩⟩ | ((repeat apply Exists.intro);exact⟨⟨i+1,by go_num,by omega,⟨(HFN.out _).1⟩,⟨(HFN.out _).2.1⟩,⟨(HFN.out _).2.2⟩⟩,rfl⟩)
    case measure=>show ((M:Int)-((i:Int)+1)).toNat<((M:Int)-(i:Int)).toNat;omega
  ·have:i=M:=by omega
   subst this
   go_wp2
   go_ret
   exact⟨gg,cg,q,cp,rfl,hcg,by have:=HBR.out;rwa [List.take_of_length_le (by rw [HM.out];exact Nat.le_refl _)] at this,HB.out⟩
theorem roomD_pos (v l:Nat)(hv:1<=v/\v<=40)(hl:l<4):0<roomD v l/\roomD v l<=5000:=by
 have L:=lay_at v l hv hl
 have h1:=L.tot
 have h2:=(tot_row v hv).2
 have h3:0<lvD v l*(lvC v l+lvC2 v l):=Nat.mul_pos L.d1 (by have:=L.c1;omega)
 unfold roomD
 omega
theorem room_pos (v:Nat)(hv:1<=v/\v<=40):0<roomN v/8/\roomN v/8<=5000:=by
 have L:=lay_at v 0 hv (by decide)
 have h1:=L.tot
 have h2:=(tot_row v hv).2
 have h3:0<lvD v 0*(lvC v 0+lvC2 v 0):=Nat.mul_pos L.d1 (by have:=L.c1;omega)
 omega
def symWords (v l:Nat)(ws:List Nat):List Nat:=mixedW (lvC v l) (lvD v l) (lvC2 v l) (lvE v l) fun k i=>(codeB (lvC v l) (lvD v l) (lvE v l) ws k).getD i 0
theorem symWords_lt (v l:Nat)(ws:List Nat)(hw:AllLt 8 ws):AllLt 8 (symWords v l ws):=by
 have h8:∀ k i,(codeB (lvC v l) (lvD v l) (lvE v l) ws k).getD i 0<256:=fun k i=>getD_lt (codeB_lt _ _ _ ws k hw) i
 intro x hx
 unfold symWords at hx
 rw [mixed_split] at hx
 simp only [List.mem_append,List.mem_flatMap,List.mem_map] at hx
 rcases hx with (⟨_,_,_,_,rfl⟩ | ⟨_,_,rfl⟩) | ⟨_,_,_,_,rfl⟩
 ·exact h8 _ _
 ·exact h8 _ _
 ·exact h8 _ _
theorem Brows.mono {w:World}{B B' g n:Nat}{q cp:Nat->Nat}{cf:Nat->Nat->Bool}(h:Brows w B g n q cp cf)(hb:B'<=B):Brows w B' g n q cp cf :=
 ⟨Nat.le_trans hb h.base,h.blk,fun r hr=>by obtain⟨k1,k2,k3⟩:=h.row r hr;exact⟨k1,Nat.le_trans hb k2,k3⟩,h.inj⟩
theorem bool_own {w:World}{base:Nat}{v:Value}{xs:List Bool}(h:BOwn w base v xs)(h0:0<xs.length) :
  ∃ q c,v=.slice (some ⟨q,0,none⟩) xs.length c/\q<w.heap.size/\∀ i,i<xs.length->w.cell? ⟨q,i,none⟩=some (.bool (xs.getD i false)):=by
 obtain⟨hlen,h2⟩:=h
 rcases h2 with⟨_,h3⟩ | ⟨q,c,cs,rfl,hb,hh,hc,hm,hs,ht⟩
 ·omega
 ·refine⟨q,c,rfl,Blk.lt hh,fun i hi=>?_⟩
  rw [Blk.cell hh i]
  have h5:(cs.toList.take xs.length)[i]? = (bools xs)[i]?:=by rw [Nat.mul_one] at ht;rw [ht]
  rw [List.getElem?_take_of_lt hi] at h5
  rw [<- Array.getElem?_toList,h5]
  simp [bools,List.getElem?_map,List.getElem?_eq_getElem hi,List.getD_eq_getElem?_getD]
theorem bool_own' {w:World}{base nb:Nat}{v:Value}{xs:List Bool}(h:BOwn w base v xs)(hn:xs.length=nb)(h0:0<nb) :
  ∃ q c,v=.slice (some ⟨q,0,none⟩) nb c/\q<w.heap.size/\∀ i,i<nb->w.cell? ⟨q,i,none⟩=some (.bool (xs.getD i false)):=by
 subst hn
 exact bool_own h h0
set_option maxHeartbeats 2000000 in
set_option maxRecDepth 8000 in
theorem sym19 (w:World)(A:Option Addr)(c n v l m:Nat)(segs:List F.S98)(cf:Nat->Nat->Bool)(hS:Kd.C F.k98 w A n segs)(hn:segs.length=n)(hv:1<=v/\v<=40)(hl:l<4)(hm:m<8)(hs:∀ s∈segs,SegOK s v)(hn2:n<=200)
  (hfit:(sgStream (segs.map toSg) v).length<=8*roomD v l) (hp:Ev (fun k=>F.spec_QRPatterns.f k v l m) (rowsOfB (17+4*v) cf (17+4*v))) :
  Calls Tryz.prog 19 #[.slice A n c,.int .i64 (v:Int),.int .i64 (l:Int),.int .i64 (m:Int)] w fun e w'=>∃ g cap q cp,e=.returned (.tuple #[.slice (some ⟨g,0,none⟩) (17+4*v) cap,.bool true])/\(17+4*v<=cap/\cp (17+4*v)=cap)/\
   Brows w' w.heap.size g (17+4*v) q cp (putAll (modBit (streamBits (symWords v l (dataWords (sgStream (segs.map toSg) v) (roomD v l)))) m) (way (17+4*v) (fpB v (ctrs v))) 0 cf)/\Below w.heap.size w w':=by
 have k32:=words32 w A c n v l segs hS hn hv hl hs hn2 hfit
 have hlen:=dataWords_len (sgStream (segs.map toSg) v) (roomD v l) hfit
 have hlt:=dataWords_lt (sgStream (segs.map toSg) v) (roomD v l)
 have hd:=roomD_pos v l hv hl
 have hr:=room_pos v hv
 obtain⟨ws,hws⟩:∃ ws,dataWords (sgStream (segs.map toSg) v) (roomD v l)=ws:=⟨_,rfl⟩
 rw [hws] at k32 hlen hlt ⊢
 clear hws hfit hs hS
 have K27:=Aside0.mk (fun W q cN h1 h2 h3=>split27 W v l q (roomD v l) cN ws hv hl h1 h2 hlen rfl hlt h3)
 have K26:=Aside0.mk (fun W B vo qs cs h=>mixed26 W v l B vo ws qs cs hv hl h hlen hlt)
 have hxl:(symWords v l ws).length=roomN v/8:=by unfold symWords;rw [mixed_len,(lay_at v l hv hl).tot]
 have hx8:=symWords_lt v l ws hlt
 have hsb:=streamBits_len (symWords v l ws)
 rw [hxl] at hsb
 have K29:=Aside0.mk (fun W q cN h1 h2=>bits29 W q (roomN v/8) cN (symWords v l ws) h1 h2 hxl (by omega) hx8)
 have K28:=Aside0.mk (fun W qb cb h1 h2=>mods28 W v l m qb (8*(roomN v/8)) cb (streamBits (symWords v l ws)) cf hv hm hsb h1 h2 hp)
 have HXL:=Aside0.mk hxl
 have HSB:=Aside0.mk hsb
 obtain⟨D,hD⟩:∃ D,roomD v l=D:=⟨_,rfl⟩
 obtain⟨T,hT⟩:∃ T,roomN v/8=T:=⟨_,rfl⟩
 rw [hD] at K27 k32 hd
 rw [hT] at K26 K29 K28 HXL HSB hr
 clear hlen hlt hxl hx8 hsb hD hT hp hn
 go_enter Tryz.func19,Tryz.ntmps19
 go_wp2_with (first
  | (go_at_call 32;refine k32.mono ?_;rintro e0 w1 ⟨v1,rfl,ho,hb1⟩;obtain⟨q1,c1,rfl,hq1,hc1,⟨cs1,hk1⟩,hby,_⟩:=own_bytes ho hd.1;have k27:=K27.out w1 q1 c1 hby hk1.lt hc1;have HB1:=Aside0.mk hb1;clear ho hb1 hby hk1)
  | (go_at_call 27;refine k27.mono ?_;rintro e0 w2 ⟨vo,qs,cs,rfl,hR,hb2⟩;have HB2:=Aside0.mk (HB1.out.trans (hb2.mono HB1.out.size));have k26:=K26.out w2 _ vo qs cs hR;clear hR hb2)
  | (go_at_call 26;refine k26.mono ?_;rintro e0 w3 ⟨v3,rfl,ho3,hb3⟩;have HB3:=Aside0.mk (HB2.out.trans (hb3.mono HB2.out.size));obtain⟨q3,c3,rfl,hq3,hc3,⟨cs3,hk3⟩,hby3,_⟩:=own_bytes ho3 hr.1;have k29:=K29.out w3 q3 c3 hby3 hk3.lt;clear ho3 hb3 hby3 hk3)
  | (go_at_call 29;refine k29.mono ?_;rintro e0 w4 ⟨v4,rfl,ho4,hb4⟩;have HB4:=Aside0.mk (HB3.out.trans (hb4.mono HB3.out.size));obtain⟨q4,c4,rfl,hq4,hbits⟩:=bool_own' ho4 HSB.out (by omega);have k28:=K28.out w4 q4 c4 hq4 hbits;clear ho4 hb4 hbits)
  | (go_at_call 28;with_reducible (refine k28.mono ?_);rintro e0 w5 ⟨g5,cap5,q5,cp5,rfl,hcap,hbr,hb5⟩;have HB5:=Aside0.mk (HB4.out.trans (hb5.mono HB4.out.size));have HBR5:=Aside0.mk hbr;clear hbr hb5))
 go_ret2
 exact⟨g5,cap5,q5,cp5,rfl,hcap,Brows.mono HBR5.out HB4.out.size,HB5.out⟩
set_option maxHeartbeats 1000000 in
theorem words32_no (w:World)(A:Option Addr)(c n v l:Nat)(segs:List F.S98)(hS:Kd.C F.k98 w A n segs)(hn:segs.length=n)(hv:1<=v/\v<=40)(hl:l<4)(hs:∀ s∈segs,SegOK s v)(hn2:n<=200)
  (hfit:¬ (sgStream (segs.map toSg) v).length<=8*roomD v l) :
  Calls Tryz.prog 32 #[.slice A n c,.int .i64 (v:Int),.int .i64 (l:Int)] w fun e w'=>e=.returned (.tuple #[.slice none 0 0,.bool false])/\Below w.heap.size w w':=by
 have k1:=stream67 w A c n v segs hS hn hv hs hn2
 have K22:=Aside0.mk (fun W=>words22 W v l hv hl)
 obtain⟨bits,hbits⟩:∃ bits,sgStream (segs.map toSg) v=bits:=⟨_,rfl⟩
 have hroom:=(roomD_pos v l hv hl).2
 obtain⟨room,hr⟩:∃ room,roomD v l=room:=⟨_,rfl⟩
 rw [hbits] at k1 hfit
 rw [hr] at K22 hfit hroom
 obtain⟨m,hm⟩:∃ m,bits.length=m:=⟨_,rfl⟩
 rw [hm] at hfit
 have hfit2:8*room<m:=by omega
 have HM:=Aside0.mk hm
 clear hS hn hs hbits hr hv hl hm hfit
 go_enter Tryz.func32,Tryz.ntmps32
 go_wp2_with fail
 refine k1.mono ?_
 rintro e w1 ⟨v1,rfl,hO1,hB1⟩
 obtain⟨A1,c1,hv1⟩:=hO1.shape
 rw [HM.out] at hv1
 subst hv1
 have HB1:=Aside0.mk hB1
 clear hO1 hB1 k1
 go_wp2_with fail
 refine (K22.out w1).mono ?_
 rintro e w2 ⟨rfl,hB2⟩
 have HB2:=Aside0.mk (HB1.out.trans (hB2.mono HB1.out.size))
 clear hB2
 go_wp2_with fail
 go_ret2
 exact⟨rfl,HB2.out⟩
set_option maxHeartbeats 1000000 in
theorem sym19_no (w:World)(A:Option Addr)(c n v l m:Nat)(segs:List F.S98)(hS:Kd.C F.k98 w A n segs)(hn:segs.length=n)(hv:1<=v/\v<=40)(hl:l<4)(hs:∀ s∈segs,SegOK s v)(hn2:n<=200)
  (hfit:¬ (sgStream (segs.map toSg) v).length<=8*roomD v l) :
  Calls Tryz.prog 19 #[.slice A n c,.int .i64 (v:Int),.int .i64 (l:Int),.int .i64 (m:Int)] w fun e w'=>e=.returned (.tuple #[.slice none 0 0,.bool false])/\Below w.heap.size w w':=by
 have k32:=words32_no w A c n v l segs hS hn hv hl hs hn2 hfit
 clear hfit hs hS hn hv hl
 go_enter Tryz.func19,Tryz.ntmps19
 go_wp2_with (go_at_call 32;refine k32.mono ?_;rintro e0 w1 ⟨rfl,hb1⟩;have HB1:=Aside0.mk hb1;clear hb1)
 go_ret2
 exact⟨rfl,HB1.out⟩
end Go.Proofs.YtgccjgpdjkhpdaaGreat.B
