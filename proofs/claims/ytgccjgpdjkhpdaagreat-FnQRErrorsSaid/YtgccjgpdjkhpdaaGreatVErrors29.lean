import Derived.Deep.RegionWith
import Derived.Test.YtgccjgpdjkhpdaaGreatVErrors23
open Go.Proofs.YtgccjgpdjkhpdaaGreatW.PrintWords.Aside0 renaming mk→Mw
open List renaming getD_eq_getElem?_getD→Mx,getElem?_eq_getElem→My,getElem_mem→Mz
/-! Own texts of this claim, part 29. -/
namespace Go.Proofs.YtgccjgpdjkhpdaaGreat.B
open Go.RowKit Go.Proofs.YtgccjgpdjkhpdaaGreatW.PrintWords Go.Proofs.YtgccjgpdjkhpdaaGreatW.PrintLast Go.Proofs.YtgccjgpdjkhpdaaGreatW.PrintMore
set_option linter.unusedVariables false
set_option linter.unusedSimpArgs false
def le:List Int:=[32,36,37,42,43,45,46,47,58]
theorem GE (x:Int)(h:48<=x/\x<=57):(bn x:Int)=x-48:=by
 obtain⟨n,rfl⟩:∃ n:Nat,x=(n:Int):=⟨x.toNat,by omega⟩;have hl:∀ k:Fin 10,(bn ((48+k.val:Nat):Int):Int)=((48+k.val:Nat):Int)-48:=by decide
 have:=hl ⟨n-48,by omega⟩;simp only [show 48+(n-48)=n by omega] at this;exact this
theorem GF (x:Int)(h:65<=x/\x<=90):(bn x:Int)=x-65+10:=by
 obtain⟨n,rfl⟩:∃ n:Nat,x=(n:Int):=⟨x.toNat,by omega⟩;have hl:∀ k:Fin 26,(bn ((65+k.val:Nat):Int):Int)=((65+k.val:Nat):Int)-65+10:=by decide
 have:=hl ⟨n-65,by omega⟩;simp only [show 65+(n-65)=n by omega] at this;exact this
theorem GH (x:Int)(h:bn x<45):∃ y:Nat,y∈kR/\(y:Int)=x:=by
 have:=o7 x h;refine⟨kR.getD (bn x) 0,?_,this⟩;rw [Mx,My (show bn x<kR.length from h)];exact Mz _
theorem GI (x:Int)(h:bn x<45):(48<=x/\x<=57)\/(65<=x/\x<=90)\/x=32\/x=36\/x=37\/x=42\/x=43\/x=45\/x=46\/x=47\/x=58:=by
 obtain⟨y,hy,rfl⟩:=GH x h;simp only [kR,List.mem_cons,List.not_mem_nil,or_false] at hy;omega
theorem pa (w:World)(x:Int)(h:bn x<45):Calls Tryz.prog 100 #[.int .u8 x] w fun e w'=>e=.returned (.int .i64 (bn x:Int))/\w=w':=by
 rcases GI x h with h1 | h1 | h1
 ·have K:=Mw (GE x h1);obtain⟨h1,h2⟩:=h1;clear h
  go_enter Tryz.func100,Tryz.ntmps100
  go_wp2
  go_ret
  exact⟨by rw [K.out];rfl,rfl⟩
 ·have K:=Mw (GF x h1);obtain⟨h1,h2⟩:=h1;clear h
  go_enter Tryz.func100,Tryz.ntmps100
  go_wp2
  go_ret
  exact⟨by rw [K.out];rfl,rfl⟩
 have i0:∀ W,(Instr.index 215 (.agg #[.int .u8 32,.int .u8 36,.int .u8 37,.int .u8 42,.int .u8 43,.int .u8 45,.int .u8 46,.int .u8 47,.int .u8 58]) (.int .i64 0)).run Tryz.prog W=.ok (.int .u8 32) W:=fun _=>by kernel_rfl
 have i1:∀ W,(Instr.index 215 (.agg #[.int .u8 32,.int .u8 36,.int .u8 37,.int .u8 42,.int .u8 43,.int .u8 45,.int .u8 46,.int .u8 47,.int .u8 58]) (.int .i64 1)).run Tryz.prog W=.ok (.int .u8 36) W:=fun _=>by kernel_rfl
 have i2:∀ W,(Instr.index 215 (.agg #[.int .u8 32,.int .u8 36,.int .u8 37,.int .u8 42,.int .u8 43,.int .u8 45,.int .u8 46,.int .u8 47,.int .u8 58]) (.int .i64 2)).run Tryz.prog W=.ok (.int .u8 37) W:=fun _=>by kernel_rfl
 have i3:∀ W,(Instr.index 215 (.agg #[.int .u8 32,.int .u8 36,.int .u8 37,.int .u8 42,.int .u8 43,.int .u8 45,.int .u8 46,.int .u8 47,.int .u8 58]) (.int .i64 3)).run Tryz.prog W=.ok (.int .u8 42) W:=fun _=>by kernel_rfl
 have i4:∀ W,(Instr.index 215 (.agg #[.int .u8 32,.int .u8 36,.int .u8 37,.int .u8 42,.int .u8 43,.int .u8 45,.int .u8 46,.int .u8 47,.int .u8 58]) (.int .i64 4)).run Tryz.prog W=.ok (.int .u8 43) W:=fun _=>by kernel_rfl
 have i5:∀ W,(Instr.index 215 (.agg #[.int .u8 32,.int .u8 36,.int .u8 37,.int .u8 42,.int .u8 43,.int .u8 45,.int .u8 46,.int .u8 47,.int .u8 58]) (.int .i64 5)).run Tryz.prog W=.ok (.int .u8 45) W:=fun _=>by kernel_rfl
 have i6:∀ W,(Instr.index 215 (.agg #[.int .u8 32,.int .u8 36,.int .u8 37,.int .u8 42,.int .u8 43,.int .u8 45,.int .u8 46,.int .u8 47,.int .u8 58]) (.int .i64 6)).run Tryz.prog W=.ok (.int .u8 46) W:=fun _=>by kernel_rfl
 have i7:∀ W,(Instr.index 215 (.agg #[.int .u8 32,.int .u8 36,.int .u8 37,.int .u8 42,.int .u8 43,.int .u8 45,.int .u8 46,.int .u8 47,.int .u8 58]) (.int .i64 7)).run Tryz.prog W=.ok (.int .u8 47) W:=fun _=>by kernel_rfl
 have i8:∀ W,(Instr.index 215 (.agg #[.int .u8 32,.int .u8 36,.int .u8 37,.int .u8 42,.int .u8 43,.int .u8 45,.int .u8 46,.int .u8 47,.int .u8 58]) (.int .i64 8)).run Tryz.prog W=.ok (.int .u8 58) W:=fun _=>by kernel_rfl
 have HI:=Mw (show ∃ j:Nat,j<9/\le.getD j 0=x/\bn x=36+j by
  rcases h1 with rfl | rfl | rfl | rfl | rfl | rfl | rfl | rfl | rfl
  ·exact⟨0,by decide,rfl,rfl⟩
  ·exact⟨1,by decide,rfl,rfl⟩
  ·exact⟨2,by decide,rfl,rfl⟩
  ·exact⟨3,by decide,rfl,rfl⟩
  ·exact⟨4,by decide,rfl,rfl⟩
  ·exact⟨5,by decide,rfl,rfl⟩
  ·exact⟨6,by decide,rfl,rfl⟩
  ·exact⟨7,by decide,rfl,rfl⟩
  exact⟨8,by decide,rfl,rfl⟩)
 obtain⟨N,hN⟩:∃ N,bn x=N:=⟨_,rfl⟩;rw [hN] at HI ⊢;have t1:(decide (x≥48) && decide (x<=57))=false:=by rcases h1 with rfl | rfl | rfl | rfl | rfl | rfl | rfl | rfl | rfl<;>rfl
 have t2:(decide (x≥65) && decide (x<=90))=false:=by rcases h1 with rfl | rfl | rfl | rfl | rfl | rfl | rfl | rfl | rfl<;>rfl
 clear h hN;have hx:(32<=x/\x<=47)\/(58<=x/\x<=58):=by omega
 clear h1 t1 t2;rcases hx with⟨hx1,hx2⟩ | ⟨hx1,hx2⟩
 all_goals
  go_enter Tryz.func100,Tryz.ntmps100
  go_wp2
  go_loop [27] (fun v=>∃ i:Nat,v=.int .i64 (i:Int)/\Aside0 (∃ j:Nat,i<=j/\j<9/\le.getD j 0=x/\N=36+j)) (fun v=>(9-intOf v).toNat)
  case atStart=>exact⟨0,rfl,by obtain⟨j,h1,h2,h3⟩:=HI.out;exact⟨⟨j,Nat.zero_le _,h1,h2,h3⟩⟩⟩
  case round=>
   clear HI;obtain⟨i,rfl,HI⟩:=hrel;have hi9:i<9:=by obtain⟨j,h1,h2,_⟩:=HI.out;omega
   have hcs:i=0\/i=1\/i=2\/i=3\/i=4\/i=5\/i=6\/i=7\/i=8:=by omega
   obtain⟨y,hy⟩:∃ y,le.getD i 0=y:=⟨_,rfl⟩;have idx:∀ W,(Instr.index 215 (.agg #[.int .u8 32,.int .u8 36,.int .u8 37,.int .u8 42,.int .u8 43,.int .u8 45,.int .u8 46,.int .u8 47,.int .u8 58]) (.int .i64 (i:Int))).run Tryz.prog W=.ok (.int .u8 y) W:=by
    intro W;rw [<- hy];rcases hcs with rfl | rfl | rfl | rfl | rfl | rfl | rfl | rfl | rfl
    ·exact i0 W
    ·exact i1 W
    ·exact i2 W
    ·exact i3 W
    ·exact i4 W
    ·exact i5 W
    ·exact i6 W
    ·exact i7 W
    exact i8 W
   have HY:=Mw hy;clear hcs hy;by_cases hxy:x=y
   ·have HN:=Mw (show N=36+i by
     obtain⟨j,h1,h2,h3,h4⟩:=HI.out;have hinj:∀ a:Fin 9,∀ b:Fin 9,le.getD a.val 0=le.getD b.val 0->a=b:=by decide
     have:=hinj ⟨i,hi9⟩ ⟨j,h2⟩ (by rw [HY.out,<- hxy];exact h3.symm)
     have:i=j:=congrArg Fin.val this;omega)
    have hb:(x==y)=true:=beq_iff_eq.2 hxy;clear hxy
    go_wp2
    go_ret
    exact⟨by rw [HN.out];go_num,rfl⟩
   have hb:(x==y)=false:=beq_eq_false_iff_ne.2 hxy;have HI2:=Mw (show ∃ j:Nat,i+1<=j/\j<9/\le.getD j 0=x/\N=36+j by
    obtain⟨j,h1,h2,h3,h4⟩:=HI.out;refine⟨j,?_,h2,h3,h4⟩;rcases Nat.lt_or_ge i j with h5 | h5
    ·exact h5
    exfalso;have:i=j:=by omega
    subst this;exact hxy (by rw [<- h3];exact HY.out))
   clear hxy
   go_wp2
   go_round
   case rel=>exact⟨i+1,by go_num,HI2⟩
   case measure=>simp [intOf]<;>omega
theorem GJ (w:World)(m v:Nat)(x:Int)(hm:m=1\/m=2\/m=4)(hx:x=(m:Int))(hv:1<=v/\v<=40) :
  Calls Tryz.prog 58 #[.int .i64 x,.int .i64 (v:Int)] w fun e w'=>e=.returned (.tuple #[.int .i64 (aw m v:Int),.bool true])/\Below w.heap.size w w':=by
 have hcs:(v<=9)\/(10<=v/\v<=26)\/(27<=v):=by omega
 subst hx;have HC:=Mw (show (aw m v:Int)=rd (kV m) (iL v:Nat) from (yZ m v hm).symm);obtain⟨C,hC⟩:∃ C,aw m v=C:=⟨_,rfl⟩;rw [hC] at HC ⊢;have HB:=Mw (ai (Below.refl w.heap.size w) (.cells #[.int .i64 0,.int .i64 0,.int .i64 0] 3));clear hC;rcases hm with rfl | rfl | rfl
 all_goals
  rcases hcs with h1 | ⟨h1,h2⟩ | h1
  all_goals
   go_enter Tryz.func58,Tryz.ntmps58
   go_wp2
   go_ret2
   refine⟨?_,ai (Below.refl _ _) _⟩;rw [HC.out]
   first
    | (rw [show iL v=0 by unfold iL;rw [if_pos (by omega)]];rfl)
    | (rw [show iL v=1 by unfold iL;rw [if_neg (by omega),if_pos (by omega)]];rfl)
    | (rw [show iL v=2 by unfold iL;rw [if_neg (by omega),if_neg (by omega)]];rfl)
set_option maxHeartbeats 2000000 in
set_option maxRecDepth 8000 in
theorem GK (w:World)(m:Int)(A:Option Addr)(c:Nat)(t:List Int)(n:Nat)(hn:t.length=n)(hm:m=1\/m=2\/m=4)(hC:Kd.C (Kd.int .u8) w A n t)(h1:m=1->∀ x∈t,jV x)(h2:m=2->∀ x∈t,bn x<45)(hnl:n<=1000000) :
  Calls Tryz.prog 122 #[.agg #[.int .i64 m,.slice A n c]] w fun e w'=>e=.returned (.bool true)/\Below w.heap.size w w':=by
 obtain⟨w0,hw0⟩:∃ w0,w0=w.alloc (.cells #[.int .i64 m,.slice A n c] 98):=⟨_,rfl⟩;have HW:=Mw hw0;have hB:Below w.heap.size w w0:=by rw [hw0];exact ai (Below.refl _ _) _
 have HB:=Mw hB;have HBk:=Mw (show Blk w0 w.heap.size 98 #[.int .i64 m,.slice A n c] by rw [hw0];exact Blk.new _ _ _)
 have HR:=Mw (show cA w0 .u8 A n t from Kd.mq (Kd.bB hC hB));have H1:=Mw h1;have H2:=Mw h2;have HN:=Mw hn;clear hw0 hC h1 h2 hn hB;rcases hm with rfl | rfl | rfl
 ·have c0:w0.cell? ⟨w.heap.size,0,none⟩=_:=HBk.out.cell 0;have c1:w0.cell? ⟨w.heap.size,1,none⟩=_:=HBk.out.cell 1
  go_enter Tryz.func122,Tryz.ntmps122
  go_wp2_with fail
  rw [<- HW.out]
  go_loop [8] (fun v=>∃ i:Nat,v=.int .i64 (i:Int)/\i<=n) (fun v=>(n-intOf v).toNat)
  case atStart=>exact⟨0,rfl,Nat.zero_le _⟩
  case round=>
   obtain⟨i,rfl,hi⟩:=hrel;by_cases hin:i<n;rotate_left
   ·have:n=i:=by omega
    subst this
    go_wp2
    go_ret
    exact⟨rfl,HB.out⟩
   obtain⟨ad,e0,hcell⟩:=HR.out.2.2 (by omega);subst e0;have r0:=hcell i hin;obtain⟨x,hx⟩:∃ x,t.getD i 0=x:=⟨_,rfl⟩;have hmem:x∈t:=by
    rw [<- hx,Mx,My (by rw [HN.out];exact hin)]
    exact Mz _
   rw [hx] at r0;have HX1:=Mw hmem;clear hx hmem hcell;have hd:=H1.out (by first | exact True.intro | exact rfl) x HX1.out;have hb1:decide (x<48)=false:=decide_eq_false (by have:=hd.1;omega)
   have hb2:decide (57<x)=false:=decide_eq_false (by have:=hd.2;omega)
   clear hd
   go_wp2
   go_round
   case rel=>exact⟨i+1,by go_num,by omega⟩
   case measure=>simp [intOf]<;>omega
 rotate_left
 ·have c0:w0.cell? ⟨w.heap.size,0,none⟩=_:=HBk.out.cell 0;have c1:w0.cell? ⟨w.heap.size,1,none⟩=_:=HBk.out.cell 1
  go_enter Tryz.func122,Tryz.ntmps122
  go_wp2_with fail
  rw [<- HW.out]
  go_loop [8] (fun v=>∃ i:Nat,v=.int .i64 (i:Int)/\i<=n) (fun v=>(n-intOf v).toNat)
  case atStart=>exact⟨0,rfl,Nat.zero_le _⟩
  case round=>
   obtain⟨i,rfl,hi⟩:=hrel;by_cases hin:i<n;rotate_left
   ·have:n=i:=by omega
    subst this
    go_wp2
    go_ret
    exact⟨rfl,HB.out⟩
   obtain⟨ad,e0,hcell⟩:=HR.out.2.2 (by omega);subst e0;have r0:=hcell i hin;obtain⟨x,hx⟩:∃ x,t.getD i 0=x:=⟨_,rfl⟩;have hmem:x∈t:=by
    rw [<- hx,Mx,My (by rw [HN.out];exact hin)]
    exact Mz _
   rw [hx] at r0;have HX1:=Mw hmem;clear hx hmem hcell
   go_wp2
   go_round
   case rel=>exact⟨i+1,by go_num,by omega⟩
   case measure=>simp [intOf]<;>omega
 have c0:w0.cell? ⟨w.heap.size,0,none⟩=_:=HBk.out.cell 0;have c1:w0.cell? ⟨w.heap.size,1,none⟩=_:=HBk.out.cell 1
 go_enter Tryz.func122,Tryz.ntmps122
 go_wp2_with fail
 rw [<- HW.out]
 go_loop [8] (fun v=>∃ i:Nat,v=.int .i64 (i:Int)/\i<=n) (fun v=>(n-intOf v).toNat)
 case atStart=>exact⟨0,rfl,Nat.zero_le _⟩
 case round=>
  obtain⟨i,rfl,hi⟩:=hrel;by_cases hin:i<n;rotate_left
  ·have:n=i:=by omega
   subst this
   go_wp2
   go_ret
   exact⟨rfl,HB.out⟩
  obtain⟨ad,e0,hcell⟩:=HR.out.2.2 (by omega);subst e0;have r0:=hcell i hin;obtain⟨x,hx⟩:∃ x,t.getD i 0=x:=⟨_,rfl⟩;have hmem:x∈t:=by
   rw [<- hx,Mx,My (by rw [HN.out];exact hin)]
   exact Mz _
  rw [hx] at r0;have HX1:=Mw hmem;clear hx hmem hcell;have hd:=H2.out (by first | exact True.intro | exact rfl) x HX1.out;have ka:=pa w0 x hd;obtain⟨N,hN⟩:∃ N,bn x=N:=⟨_,rfl⟩;rw [hN] at ka;have hb4:decide ((N:Int)<0)=false:=decide_eq_false (by omega);clear hd hN
  go_wp2_with (go_at_call 100;refine ka.mono ?_;rintro e w' ⟨rfl,rfl⟩)
  go_round
  case rel=>exact⟨i+1,by go_num,by omega⟩
  case measure=>simp [intOf]<;>omega
theorem nK (A:Option Addr)(n m c k:Nat)(t l:List Int)(hn:t.length=n)(hm:l.length=m)(hk:t.drop k=l)(hkn:k<=n)(hc:n<=c):∃ (A':Option Addr) (c':Nat),(∀ W:World,(Instr.slice 26 (.slice A n c) (some (.int .i64 (k:Int))) none none).run Tryz.prog W=.ok (.slice A' m c') W)/\
  (∀ w:World,cA w .u8 A n t->cA w .u8 A' m l)/\m<=c':=by
 obtain⟨i0,hi0,hz0,hz1,hz2⟩:=info_parts F.cS;subst hn;obtain⟨A',h1,h2,h3⟩:=Bq (P:=Tryz.prog) (Value.int .u8) (0:Int) 26 5 .i64 Tryz.underlying26 hi0 hz1 A c t (k:Int) (by omega) (by omega) hc;rw [Int.toNat_natCast,hk,hm] at h1 h2 h3;exact⟨A',c-k,h1,h2,h3⟩
structure jv (w0 w wr:World)(v v0:Value)(xs:List Bool)(p:Nat)(cs:Array Value):Prop where
 own:cJ wr w0.heap.size v0 xs
 bel:Below w0.heap.size w0 wr
 sz:w0.heap.size<=wr.heap.size
 gr:eS w wr v v0
 box:Blk wr p 98 cs
theorem jv.drew {w0 w wr:World}{v v0:Value}{xs:List Bool}{p:Nat}{cs:Array Value}(h:jv w0 w wr v v0 xs p cs):jv w0 w wr.drew v v0 xs p cs :=
 ⟨ei h.own fun _ _=>rfl,⟨h.bel.os,h.bel.tape,h.bel.output,h.bel.size,h.bel.block⟩,h.sz,h.gr.below ⟨rfl,rfl,rfl,Nat.le_refl _,fun _ _=>rfl⟩,h.box⟩
theorem nL {w0 w wr:World}{v v0:Value}{xs:List Bool}{p n k:Nat}{cs:Array Value}{a b:Int}(h:jv w0 w wr v v0 xs p cs)(ha:a=(n:Int))(hb:b=(k:Int))(hn:n<2147483648)(hk:k<=60)(hxl:xs.length<=10000000) :
  Calls Tryz.prog 66 #[v0,.int .i64 a,.int .i64 b] wr fun e w'=>∃ v',e=.returned v'/\jv w0 w w' v v' (xs++aD n k) p cs:=by
 subst ha hb;refine (tM w0 wr w0.heap.size n k v0 xs h.own h.bel h.sz hn hk hxl).mono ?_;rintro e w' ⟨v',rfl,h1,h2,h3⟩;refine⟨v',rfl,h1,h2,Nat.le_trans h.sz h3.by_.size,h.gr.trans h3,?_⟩;exact (h3.by_.block p h.box.lt (own_ne h.own h.box (by decide))).trans h.box
theorem GL (x:Int)(l:List Int):(x :: l).getD 0 0=x:=rfl
set_option maxHeartbeats 1000000 in
set_option maxRecDepth 8000 in
theorem GM (w0 w:World)(v:Value)(xs:List Bool)(A:Option Addr)(c n:Nat)(t:List Int)(hn:t.length=n)(hc:n<=c)(hT:Kd.C (Kd.int .u8) w0 A n t)(hB:Below w0.heap.size w0 w)(hO:cJ w w0.heap.size v xs)(hz:w0.heap.size<=w.heap.size)(hby:∀ x∈t,0<=x/\x<=255)(hl:xs.length+8*n<=9000000) :
  Calls Tryz.prog 123 #[v,.agg #[.int .i64 4,.slice A n c]] w fun e w'=>∃ v',e=.returned v'/\cJ w' w0.heap.size v' (xs++fS t)/\Below w0.heap.size w0 w'/\eS w w' v v':=by
 obtain⟨w1,hw1⟩:∃ w1,w1=w.alloc (.cells #[.int .i64 4,.slice A n c] 98):=⟨_,rfl⟩;have HW:=Mw hw1;have HM:=Mw (show jv w0 w w1 v v xs w.heap.size #[.int .i64 4,.slice A n c] by
  rw [hw1];exact⟨ei hO fun k hk=>by obtain⟨cs,hb⟩:=eM hO k hk;exact Below.heap_alloc w _ k hb.lt,hB.alloc hz _,by simp;omega,(eS.refl w v).below (ai (Below.refl _ _) _),Blk.new _ _ _⟩)
 have HT:=Mw (show ∀ W,Below w0.heap.size w0 W->cA W .u8 A n t from fun W hb=>Kd.mq (Kd.bB hT hb));have HN:=Mw hn;have HBY:=Mw hby;have HL:=Mw hl;have c0:=HM.out.box.cell 0;have c1:=HM.out.box.cell 1;have HL0:=Mw (show t.length=n from hn);clear hw1 hT hB hO hn hby hl
 go_enter Tryz.func123,Tryz.ntmps123
 go_wp2_with fail
 rw [<- HW.out]
 go_wp2_with fail
 clear c0 c1
 go_loopw [0,5] (fun v0 v5 wr=>∃ (A':Option Addr) (n' c':Nat) (t':List Int) (ys:List Bool),v5=.slice A' n' c'/\n'<=n/\n'<=c'/\Aside0 (t'.length=n')/\Aside0 (∀ W,Below w0.heap.size w0 W->cA W .u8 A' n' t')/\Aside0 (jv w0 w wr v v0 ys w.heap.size #[.int .i64 4,.slice A n c])/\Aside0 (ys++fS t'=xs++fS t)/\Aside0 (∀ x∈t',0<=x/\x<=255)/\Aside0 (ys.length<=9000000)) (fun _ v5 _=>(fR v5).toNat)
 case atStart=>exact⟨A,n,c,t,xs,rfl,Nat.le_refl _,hc,HN,HT,HM,⟨rfl⟩,HBY,⟨by have:=HL.out;omega⟩⟩
 case round=>
  clear HT HM HN HBY hc;obtain⟨A',n',c',t',ys,rfl,hnn,hcc,HN,HT,HM,HE,HBY,HYL⟩:=hrel;have c0:=HM.out.box.cell 0;by_cases h0:n'=0
  ·subst h0;have HE2:=Mw (show ys=xs++fS t by rw [<- HE.out,List.eq_nil_of_length_eq_zero HN.out];simp [fS])
   go_wp2
   go_ret
   exact⟨_,rfl,by rw [<- HE2.out];exact HM.out.own,HM.out.bel,HM.out.gr⟩
  obtain⟨x,l,hxl⟩:∃ x l,t'=x :: l:=by
   cases t' with
   | nil=>exact absurd HN.out.symm h0
   | cons x l=>exact⟨x,l,rfl⟩
  subst hxl;obtain⟨m,hm⟩:∃ m,l.length=m:=⟨_,rfl⟩;have hmn:n'=m+1:=by have:=HN.out;simp at this;omega
  obtain⟨A2,c2,hsl,hrd,hc2⟩:=nK A' n' m c' 1 (x :: l) l HN.out hm rfl (by omega) hcc;have hr:=HT.out _ HM.out.bel;obtain⟨ad,e0,hcell⟩:=hr.2.2 (by omega);have r0:=hcell 0 (by omega);rw [GL] at r0;have r00:wr.cell? ad=some (.int .u8 x):=by rw [<- r0];unfold Addr.add;simp
  obtain⟨b,hb⟩:∃ b:Nat,x=(b:Int):=⟨x.toNat,by have:=(HBY.out x (by simp)).1;omega⟩
  have hb255:b<=255:=by have:=(HBY.out x (by simp)).2;omega
  subst hb e0;rw [show (((1:Nat):Int))=1 from rfl] at hsl;have HRD:=Mw hrd;have HLM:=Mw hm;have HE2:=Mw (show (ys++aD b 8)++fS l=xs++fS t by rw [<- HE.out];simp [fS])
  have HBY2:=Mw (show ∀ x∈l,0<=x/\x<=255 from fun x hx=>HBY.out x (by simp [hx]));have hmn1:m<n':=by omega
  clear hrd hm hr hcell h0 hmn
  go_wp2_with fail
  have HMd:=Mw HM.out.drew;have hwb:IntKind.i64.wrap (b:Int)=(b:Int):=by rw [IntKind.wrap_i64];omega
  have kad:=nL (n:=b) (k:=8) (a:=(b:Int)) (b:=8) HMd.out rfl rfl (by omega) (by decide) (by have:=HYL.out;omega)
  go_region_with (go_at_call 66;with_reducible (refine kad.mono ?_);rintro e w2 ⟨v2,rfl,hM2⟩;have HM2:=Mw hM2;clear hM2)
  all_goals
   clear hwb hsl r0 r00
   go_wp2
   go_roundw
   case rel=>
    have hyl:Aside0 ((ys++aD b 8).length<=9000000):=⟨by have:=congrArg List.length HE2.out;have:=HL.out;have h3:=HL0.out;simp [ry] at *;omega⟩
    first
     | exact⟨A2,m,c2,l,_,rfl,by omega,hc2,HLM,⟨fun W hb=>HRD.out W (HT.out W hb)⟩,HM2,HE2,HBY2,hyl⟩
     | ((repeat apply Exists.intro);exact⟨⟨A2,m,c2,l,_,rfl,by omega,hc2,HLM,⟨fun W hb=>HRD.out W (HT.out W hb)⟩,HM2,HE2,HBY2,hyl⟩,rfl⟩)
   case measure=>(show ((m:Int)).toNat<((n':Int)).toNat;omega)
theorem GN (x:Int)(h0:32<=x)(h1:x<=90)(h:¬ bn x<45):((32<=x/\x<=47)\/(59<=x/\x<=64))/\∀ j:Nat,j<9->le.getD j 0≠x:=by
 obtain⟨n,rfl⟩:∃ n:Nat,x=(n:Int):=⟨x.toNat,by omega⟩;have hl:∀ k:Fin 59,¬ bn ((32+k.val:Nat):Int)<45->((32+k.val<=47)\/(59<=32+k.val/\32+k.val<=64))/\∀ j:Fin 9,le.getD j.val 0≠((32+k.val:Nat):Int):=by decide +kernel
 have hk:=hl ⟨n-32,by omega⟩;simp only [show 32+(n-32)=n by omega] at hk;obtain⟨k1,k2⟩:=hk h;exact⟨by omega,fun j hj=>k2 ⟨j,hj⟩⟩
theorem GP (w:World)(x:Int)(h0:32<=x)(h1:x<=90)(h:¬ bn x<45):Calls Tryz.prog 100 #[.int .u8 x] w fun e w'=>e=.returned (.int .i64 (-1))/\w=w':=by
 obtain⟨hr,hn⟩:=GN x h0 h1 h;have i0:∀ W,(Instr.index 215 (.agg #[.int .u8 32,.int .u8 36,.int .u8 37,.int .u8 42,.int .u8 43,.int .u8 45,.int .u8 46,.int .u8 47,.int .u8 58]) (.int .i64 0)).run Tryz.prog W=.ok (.int .u8 32) W:=fun _=>by kernel_rfl
 have i1:∀ W,(Instr.index 215 (.agg #[.int .u8 32,.int .u8 36,.int .u8 37,.int .u8 42,.int .u8 43,.int .u8 45,.int .u8 46,.int .u8 47,.int .u8 58]) (.int .i64 1)).run Tryz.prog W=.ok (.int .u8 36) W:=fun _=>by kernel_rfl
 have i2:∀ W,(Instr.index 215 (.agg #[.int .u8 32,.int .u8 36,.int .u8 37,.int .u8 42,.int .u8 43,.int .u8 45,.int .u8 46,.int .u8 47,.int .u8 58]) (.int .i64 2)).run Tryz.prog W=.ok (.int .u8 37) W:=fun _=>by kernel_rfl
 have i3:∀ W,(Instr.index 215 (.agg #[.int .u8 32,.int .u8 36,.int .u8 37,.int .u8 42,.int .u8 43,.int .u8 45,.int .u8 46,.int .u8 47,.int .u8 58]) (.int .i64 3)).run Tryz.prog W=.ok (.int .u8 42) W:=fun _=>by kernel_rfl
 have i4:∀ W,(Instr.index 215 (.agg #[.int .u8 32,.int .u8 36,.int .u8 37,.int .u8 42,.int .u8 43,.int .u8 45,.int .u8 46,.int .u8 47,.int .u8 58]) (.int .i64 4)).run Tryz.prog W=.ok (.int .u8 43) W:=fun _=>by kernel_rfl
 have i5:∀ W,(Instr.index 215 (.agg #[.int .u8 32,.int .u8 36,.int .u8 37,.int .u8 42,.int .u8 43,.int .u8 45,.int .u8 46,.int .u8 47,.int .u8 58]) (.int .i64 5)).run Tryz.prog W=.ok (.int .u8 45) W:=fun _=>by kernel_rfl
 have i6:∀ W,(Instr.index 215 (.agg #[.int .u8 32,.int .u8 36,.int .u8 37,.int .u8 42,.int .u8 43,.int .u8 45,.int .u8 46,.int .u8 47,.int .u8 58]) (.int .i64 6)).run Tryz.prog W=.ok (.int .u8 46) W:=fun _=>by kernel_rfl
 have i7:∀ W,(Instr.index 215 (.agg #[.int .u8 32,.int .u8 36,.int .u8 37,.int .u8 42,.int .u8 43,.int .u8 45,.int .u8 46,.int .u8 47,.int .u8 58]) (.int .i64 7)).run Tryz.prog W=.ok (.int .u8 47) W:=fun _=>by kernel_rfl
 have i8:∀ W,(Instr.index 215 (.agg #[.int .u8 32,.int .u8 36,.int .u8 37,.int .u8 42,.int .u8 43,.int .u8 45,.int .u8 46,.int .u8 47,.int .u8 58]) (.int .i64 8)).run Tryz.prog W=.ok (.int .u8 58) W:=fun _=>by kernel_rfl
 have HN:=Mw hn;clear h h0 h1 hn;rcases hr with⟨hx1,hx2⟩ | ⟨hx1,hx2⟩
 all_goals
  go_enter Tryz.func100,Tryz.ntmps100
  go_wp2
  go_loop [27] (fun v=>∃ i:Nat,v=.int .i64 (i:Int)/\i<=9) (fun v=>(9-intOf v).toNat)
  case atStart=>exact⟨0,rfl,by omega⟩
  case round=>
   obtain⟨i,rfl,hi⟩:=hrel;by_cases hi9:i<9;rotate_left
   ·have:i=9:=by omega
    subst this
    go_wp2
    go_ret
    exact⟨rfl,rfl⟩
   have hcs:i=0\/i=1\/i=2\/i=3\/i=4\/i=5\/i=6\/i=7\/i=8:=by omega
   obtain⟨y,hy⟩:∃ y,le.getD i 0=y:=⟨_,rfl⟩;have hxy:=HN.out i hi9;rw [hy] at hxy;have idx:∀ W,(Instr.index 215 (.agg #[.int .u8 32,.int .u8 36,.int .u8 37,.int .u8 42,.int .u8 43,.int .u8 45,.int .u8 46,.int .u8 47,.int .u8 58]) (.int .i64 (i:Int))).run Tryz.prog W=.ok (.int .u8 y) W:=by
    intro W;rw [<- hy];rcases hcs with rfl | rfl | rfl | rfl | rfl | rfl | rfl | rfl | rfl
    ·exact i0 W
    ·exact i1 W
    ·exact i2 W
    ·exact i3 W
    ·exact i4 W
    ·exact i5 W
    ·exact i6 W
    ·exact i7 W
    exact i8 W
   have hb:(x==y)=false:=beq_eq_false_iff_ne.2 (Ne.symm hxy);clear hcs hy hxy
   go_wp2
   go_round
   case rel=>exact⟨i+1,by go_num,by omega⟩
   case measure=>simp [intOf]<;>omega
theorem zg:∀ k:Fin 45,32<=fQ k.val/\fQ k.val<=90:=by decide
theorem GQ (w:World)(x:Int)(h0:32<=x)(h1:x<=90):Calls Tryz.prog 100 #[.int .u8 x] w fun e w'=>e=.returned (.int .i64 (if bn x<45 then (bn x:Int) else -1))/\w=w':=by
 by_cases h:bn x<45
 ·rw [if_pos h];exact pa w x h
 rw [if_neg h];exact GP w x h0 h1 h
set_option maxHeartbeats 1000000 in
theorem GR (w:World)(n:Nat)(hn:n<45):Calls Tryz.prog 52 #[.int .i64 (n:Int)] w fun e w'=>e=.returned (.int .u8 (fQ n))/\w=w':=by
 have hr:=zg ⟨n,hn⟩;obtain⟨c,hc⟩:∃ c:Nat,fQ n=(c:Int):=⟨(fQ n).toNat,by have:=hr.1;simp only at this;omega⟩
 have hnum:=zd ⟨n,hn⟩;simp only [hc] at hr hnum;rw [hc];have HNUM:=Mw hnum;have HCH:=Mw hc;obtain⟨hr1,hr2⟩:=hr;clear hc hnum
 go_enter Tryz.func52,Tryz.ntmps52
 go_wp2
 go_loopw [3] (fun v wr=>∃ i:Nat,v=.int .u8 (i:Int)/\32<=i/\i<=c/\Aside0 (wr=w)) (fun v _=>(91-intOf v).toNat)
 case atStart=>exact⟨32,rfl,by omega,by omega,⟨rfl⟩⟩
 case round=>
  obtain⟨i,rfl,h32,hic,HW⟩:=hrel;have ka:=GQ wr (i:Int) (by omega) (by omega);by_cases he:i=c
  ·subst he;rw [if_pos (by rw [HNUM.out];exact hn),HNUM.out] at ka
   go_wp2_with (go_at_call 100;refine ka.mono ?_;rintro e w' ⟨rfl,rfl⟩)
   go_ret
   exact⟨rfl,HW.out.symm⟩
  obtain⟨a,ha⟩:∃ a:Int,(if bn (i:Int)<45 then (bn (i:Int):Int) else -1)=a:=⟨_,rfl⟩;have hne:a≠(n:Int):=by
   rw [<- ha]
   split
   rotate_left
   ·omega
   rename_i h
   intro h2;have h3:bn (i:Int)=n:=by omega
   have h4:=o7 (i:Int) h;rw [h3,HCH.out] at h4;omega
  rw [ha] at ka;have hb:(a==(n:Int))=false:=beq_eq_false_iff_ne.2 hne;clear ha hne
  go_wp2_with (go_at_call 100;refine ka.mono ?_;rintro e w' ⟨rfl,rfl⟩)
  go_roundw
  case rel=>exact⟨i+1,by go_num,by omega,by omega,HW⟩
  case measure=>simp [intOf]<;>omega
end Go.Proofs.YtgccjgpdjkhpdaaGreat.B
