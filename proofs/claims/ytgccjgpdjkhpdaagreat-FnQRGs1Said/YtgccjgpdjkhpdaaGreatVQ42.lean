import Derived.Test.YtgccjgpdjkhpdaaGreatVQ41
/-! Own texts of this claim, part 42. -/
namespace Go.Proofs.YtgccjgpdjkhpdaaGreat.B
open Go.RowKit Go.Proofs.YtgccjgpdjkhpdaaGreatW.PrintWords Go.Proofs.YtgccjgpdjkhpdaaGreatW.PrintLast Go.Proofs.YtgccjgpdjkhpdaaGreatW.PrintMore
set_option linter.unusedVariables false
set_option linter.unusedSimpArgs false
def T6:Bool×List (List Nat×List Nat):=(true,[([],[]),([],[]),([1],[1]),([0,2],[0,2]),([3],[3]),([],[]),([5],[5]),([],[]),([],[]),([],[]),([9],[9]),([],[]),([11],[11]),([8,10,12],[8,10,12]),([7,13],[7,13]),([4,6,0,1,2,3,4,5,6,7,8,9,10,11,12,13,14],[4,6]),([15,14,13,0,1,2,3,4,5,6,7,8,9,10,11,12,13,14],[14,15])])
def B6:List Nat:=[0,0,2,7,15,0,32,0,0,0,512,0,2048,7936,16256,32767,65535]
theorem tab6:rtab .any (opsOf Tryz.f28 6)=T6:=by kernel_rfl
theorem bits6:waitsOk T6.2 B6=true:=by kernel_rfl
theorem mask_eq (m x y:Nat)(hm:m<8)(hx:x<200)(hy:y<200):F.spec_QRMaskBit.f m x y=some (maskB m x y):=by
 have hxy:x*y<=40000:=Nat.le_trans (Nat.mul_le_mul (show x<=200 by omega) (show y<=200 by omega)) (by decide)
 have tm:∀ a k:Nat,Int.tmod (a:Int) (k:Int)=((a%k:Nat):Int):=fun a k=>rfl
 have td:∀ a k:Nat,Int.tdiv (a:Int) (k:Int)=((a/k:Nat):Int):=fun a k=>rfl
 have hs:wrap64 ((x:Int)+(y:Int))=((x+y:Nat):Int):=by rw [w64q _ (by omega) (by omega)];omega
 have hp:wrap64 ((x:Int)*(y:Int))=((x*y:Nat):Int):=by
  have e:(x:Int)*(y:Int)=((x*y:Nat):Int):=by rw [Int.natCast_mul]
  rw [e,w64q _ (by omega) (by omega)]
 obtain⟨p,hpp⟩:∃ p,x*y=p:=⟨_,rfl⟩
 rw [hpp] at hp hxy
 have two:(2:Int)=((2:Nat):Int):=rfl
 have three:(3:Int)=((3:Nat):Int):=rfl
 have bq:∀ (a:Nat),((a:Int)==0)=decide (a=0):=fun a=>by
  by_cases h:a=0
  ·subst h;rfl
  ·rw [decide_eq_false h,beq_eq_false_iff_ne];omega
 unfold F.spec_QRMaskBit.f
 rw [hs,hp,two,three]
 match m,hm with
 | 0,_=>rw [if_pos (by decide),tm,bq];rfl
 | 1,_=>rw [if_neg (by decide),if_pos (by decide),tm,bq];rfl
 | 2,_=>rw [if_neg (by decide),if_neg (by decide),if_pos (by decide),tm,bq];rfl
 | 3,_=>rw [if_neg (by decide),if_neg (by decide),if_neg (by decide),if_pos (by decide),tm,bq];rfl
 | 4,_=>
  rw [if_neg (by decide),if_neg (by decide),if_neg (by decide),if_neg (by decide),if_pos (by decide),td,td,w64q ((y/2:Nat):Int) (by omega) (by omega),w64q ((x/3:Nat):Int) (by omega) (by omega),w64q _ (by omega) (by omega),<- Int.natCast_add,tm,bq]
  rfl
 | 5,_=>
  rw [if_neg (by decide),if_neg (by decide),if_neg (by decide),if_neg (by decide),if_neg (by decide),if_pos (by decide),tm,tm,w64q _ (by omega) (by omega),<- Int.natCast_add,bq,<- hpp]
  rfl
 | 6,_=>
  rw [if_neg (by decide),if_neg (by decide),if_neg (by decide),if_neg (by decide),if_neg (by decide),if_neg (by decide),if_pos (by decide),tm,tm,w64q _ (by omega) (by omega),<- Int.natCast_add,tm,bq,<- hpp]
  rfl
 | 7,_=>
  rw [if_neg (by decide),if_neg (by decide),if_neg (by decide),if_neg (by decide),if_neg (by decide),if_neg (by decide),if_neg (by decide),tm,tm,w64q _ (by omega) (by omega),<- Int.natCast_add,tm,bq,<- hpp]
  rfl
theorem maskBit (w:World)(m x y:Nat)(hm:m<8)(hx:x<200)(hy:y<200):Calls Tryz.prog 65 #[.int .i64 (m:Int),.int .i64 (x:Int),.int .i64 (y:Int)] w fun e w'=>e=.returned (.bool (maskB m x y))/\Drawn0 w w' :=
 F.spec_QRMaskBit.calls m x y _ w (mask_eq m x y hm hx hy)
theorem wayF_lt (n:Nat)(g:Nat->Nat->Bool)(p:Nat×Nat)(h:p∈way n g)(hn:1<=n)(ho:n%2=1):p.1<n/\p.2<n:=by
 obtain⟨h1,h2,h3,_⟩:=wayF_mem n g p _ _ _ h
 refine⟨h3,?_⟩
 have:fixR (n-1)<=n-1:=by unfold fixR;split<;>omega
 omega
theorem putAll_snoc (bit:Nat->Nat×Nat->Bool):∀ (l:List (Nat×Nat)) (p:Nat×Nat) (i:Nat) (f:Nat->Nat->Bool),putAll bit (l++[p]) i f=fun r c=>if r=p.1/\c=p.2 then bit (i+l.length) p else putAll bit l i f r c:=by
 intro l
 induction l with
 | nil=>intro p i f;rfl
 | cons q l ih=>
  intro p i f
  rw [List.cons_append,putAll,ih,putAll,show i+1+l.length=i+(q :: l).length by simp;omega]
def modBit (bits:List Bool)(m:Nat)(i:Nat)(p:Nat×Nat):Bool:=bits.getD i false != maskB m p.2 p.1
theorem way_cells {w:World}{base m c:Nat}{A:Option Addr}{xs:List (Nat×Nat)}(h:w.ownsRow base 118 2 (.slice A m c) m (wayCells xs))(hm:m=xs.length)(h0:0<m) :
  ∃ q CS,A=some ⟨q,0,none⟩/\Blk w q 118 CS/\m<=c/\∀ i,i<m->CS[i*2]? = some (.int .i64 ((xs.getD i (0,0)).1:Int))/\CS[i*2+1]? = some (.int .i64 ((xs.getD i (0,0)).2:Int)):=by
 obtain⟨hlen,h2⟩:=h
 rcases h2 with⟨_,h3⟩ | ⟨q,c',cs,hv,hb,hh,hc,hmx,hs,ht⟩
 ·omega
 ·injection hv with hA _ hcc
  subst hcc
  refine⟨q,cs,hA,hh,hc,fun i hi=>?_⟩
  have hget:∀ (ys:List (Nat×Nat)) (i:Nat),i<ys.length->(wayCells ys)[i*2]? = some (.int .i64 ((ys.getD i (0,0)).1:Int))/\(wayCells ys)[i*2+1]? = some (.int .i64 ((ys.getD i (0,0)).2:Int)):=by
   intro ys
   induction ys with
   | nil=>intro i hi;simp at hi
   | cons y ys ih=>
    intro i hi
    cases i with
    | zero=>exact⟨rfl,rfl⟩
    | succ i=>
     have:=ih i (by simpa using hi)
     rw [show (i+1)*2=i*2+1+1 by omega]
     unfold wayCells
     rw [List.flatMap_cons]
     simpa [wayCells] using this
  obtain⟨g1,g2⟩:=hget xs i (by omega)
  rw [<- ht] at g1 g2
  rw [List.getElem?_take_of_lt (by omega)] at g1 g2
  rw [<- Array.getElem?_toList,<- Array.getElem?_toList]
  exact⟨g1,g2⟩
theorem pat_mods (w:World)(v l m n:Nat)(cf:Nat->Nat->Bool)(hn:17+4*v=n)(hn1:1<=n)(hp:Ev (fun k=>F.spec_QRPatterns.f k v l m) (rowsOfB n cf n)) :
  Calls Tryz.prog 15 #[.int .i64 (v:Int),.int .i64 (l:Int),.int .i64 (m:Int)] w fun e w'=>∃ g cap q cp,e=.returned (.slice (some ⟨g,0,none⟩) n cap)/\(n<=cap/\cp n=cap)/\Brows w' w.heap.size g n q cp cf/\Below w.heap.size w w':=by
 obtain⟨kk,hkk⟩:=hp.rounds
 refine (F.spec_QRPatterns.calls kk v l m _ w hkk).mono ?_
 rintro e w' ⟨v0,rfl,hS,hb⟩
 obtain⟨g,cap,q,cp,rfl,hc,hbr⟩:=rows_open hS hn1
 exact⟨g,cap,q,cp,rfl,hc,hbr,hb⟩
set_option maxHeartbeats 4000000 in
set_option maxRecDepth 8000 in
theorem mods28 (w:World)(v l m qb nb cb:Nat)(bits:List Bool)(cf:Nat->Nat->Bool)(hv:1<=v/\v<=40)(hm:m<8)(hbn:bits.length=nb)(hq:qb<w.heap.size)(hb:∀ i,i<nb->w.cell? ⟨qb,i,none⟩=some (.bool (bits.getD i false)))
  (hp:Ev (fun k=>F.spec_QRPatterns.f k v l m) (rowsOfB (17+4*v) cf (17+4*v))) :
  Calls Tryz.prog 28 #[.slice (some ⟨qb,0,none⟩) nb cb,.int .i64 (v:Int),.int .i64 (l:Int),.int .i64 (m:Int)] w fun e w'=>∃ g cap q cp,e=.returned (.slice (some ⟨g,0,none⟩) (17+4*v) cap)/\(17+4*v<=cap/\cp (17+4*v)=cap)/\
   Brows w' w.heap.size g (17+4*v) q cp (putAll (modBit bits m) (way (17+4*v) (fpB v (ctrs v))) 0 cf)/\Below w.heap.size w w':=by
 have KW:=Aside0.mk (fun W=>way64 W v hv)
 obtain⟨n,hn⟩:∃ n,17+4*v=n:=⟨_,rfl⟩
 have hn1:1<=n:=by omega
 have hodd:n%2=1:=by omega
 have hn2:n<200:=by omega
 rw [hn] at hp
 have kp:=pat_mods w v l m n cf hn hn1 hp
 have hwl:=way_len v hv
 have hrm:=(tot_row v hv).2
 have hr0:0<roomN v:=by
  have L:=lay_at v 0 hv (by decide)
  have h1:=L.tot
  have h2:0<lvD v 0*(lvC v 0+lvC2 v 0):=Nat.mul_pos L.d1 (by have:=L.c1;omega)
  omega
 rw [hn] at KW hwl ⊢
 obtain⟨xs,hxs⟩:∃ xs,way n (fpB v (ctrs v))=xs:=⟨_,rfl⟩
 have hin:∀ p,p∈xs->p.1<n/\p.2<n:=fun p hp=>by rw [<- hxs] at hp;exact wayF_lt n _ p hp hn1 hodd
 rw [hxs] at KW hwl ⊢
 clear hxs hp hn
 have HB_:=Aside0.mk hb
 have HQ:=Aside0.mk hq
 have HIN:=Aside0.mk hin
 have HBN:=Aside0.mk hbn
 have HM8:=Aside0.mk hm
 clear hb hq hin hbn hm
 go_enter Tryz.func28,Tryz.ntmps28
 go_wp2_with (first | (go_at_call 15;refine kp.mono ?_;rintro e0 w1 ⟨gg,cg,q,cp,rfl,hcg,hbr,hb1⟩;have HBR:=Aside0.mk hbr;have HB1:=Aside0.mk hb1;clear hbr hb1) | (go_at_call 64;refine (KW.out _).mono ?_;rintro e0 w2 ⟨A,M,cM,rfl,hM,ho,hb2⟩;obtain⟨qw,CS,hA,hblk,hMc,hcs⟩:=way_cells ho hM (by omega);subst hA;have HCS:=Aside0.mk hcs;have HBLK:=Aside0.mk hblk;have HM:=Aside0.mk hM;have HB2:=Aside0.mk (HB1.out.trans (hb2.mono HB1.out.size));have HBR2:=Aside0.mk (HBR.out.below hb2 (Nat.le_refl _));clear ho hb2 hcs hblk hM))
 clear kp HBR
 have hM5:M<=40000:=by rw [HM.out,hwl];exact hrm
 clear hwl hrm hr0
 go_loopw [20] (fun vi wr=>∃ i:Nat,vi=.int .i64 (i:Int)/\i<=M/\Aside0 (Brows wr w.heap.size gg n q cp (putAll (modBit bits m) (xs.take i) 0 cf))/\Aside0 (Blk wr qw 118 CS)/\Aside0 (Below w.heap.size w wr)) (fun vi _=>(M-intOf vi).toNat)
 case atStart=>exact⟨0,rfl,Nat.zero_le _,HBR2,HBLK,HB2⟩
 case round=>
  clear HBR2 HBLK HB2
  obtain⟨i,rfl,hi,HBR,HBLK,HB⟩:=hrel
  by_cases hiM:i<M
  ·obtain⟨p,hp⟩:∃ p,xs.getD i (0,0)=p:=⟨_,rfl⟩
   obtain⟨r,c⟩:=p
   obtain⟨c1,c2⟩:=HCS.out i hiM
   rw [hp] at c1 c2
   have hmem:(r,c)∈xs:=by
    rw [<- hp,List.getD_eq_getElem?_getD,List.getElem?_eq_getElem (by rw [<- HM.out];exact hiM)]
    exact List.getElem_mem _
   obtain⟨hrn,hcn⟩:=HIN.out _ hmem
   have r0:wr.cell? ⟨qw,i*2,none⟩=some (.int .i64 (r:Int)):=(Blk.cell HBLK.out (i*2)).trans c1
   have r1:wr.cell? ⟨qw,i*2+1,none⟩=some (.int .i64 (c:Int)):=(Blk.cell HBLK.out (i*2+1)).trans c2
   have htk:xs.take (i+1)=xs.take i++[(r,c)]:=by
    rw [List.take_succ_eq_append_getElem (by rw [<- HM.out];exact hiM)]
    congr 2
    rw [List.getD_eq_getElem?_getD,List.getElem?_eq_getElem (by rw [<- HM.out];exact hiM)] at hp
    exact hp
   have HNX:=Aside0.mk (show putAll (modBit bits m) (xs.take (i+1)) 0 cf=fun r' c'=>if r'=r/\c'=c then modBit bits m i (r,c) else putAll (modBit bits m) (xs.take i) 0 cf r' c' by
    rw [htk,putAll_snoc,Nat.zero_add,List.length_take,Nat.min_eq_left (by rw [<- HM.out];exact hi)])
   have hbit:i<nb->wr.cell? ⟨qb,i,none⟩=some (.bool (bits.getD i false)):=fun h=>(HB.out.cell (p:=⟨qb,i,none⟩) HQ.out).trans (HB_.out i h)
   have hbit2:¬ i<nb->bits.getD i false=false:=fun h=>by rw [List.getD_eq_getElem?_getD,List.getElem?_eq_none (by rw [HBN.out];omega)];rfl
   obtain⟨b,hbb⟩:∃ b,bits.getD i false=b:=⟨_,rfl⟩
   rw [hbb] at hbit hbit2
   have HMB:=Aside0.mk (show modBit bits m i (r,c)=(b != maskB m c r) by unfold modBit;rw [hbb])
   clear hp c1 c2 hmem htk hbb
   obtain⟨o,ho⟩:∃ o,o=Obj.cells #[.int .i64 (r:Int),.int .i64 (c:Int)] 118:=⟨_,rfl⟩
   have hBR3:=HBR.out.below (below_alloc (Below.refl _ _) o) (Nat.le_refl _)
   obtain⟨z1,zb,zc,⟨zcs,zk⟩,z2⟩:=hBR3.row r hrn
   have z3:=z2 c hcn
   have z4:(wr.alloc o).frozen? ⟨q r,c,none⟩=false:=Blk.frozen zk c
   have zn:Blk (wr.alloc o) wr.heap.size 118 #[.int .i64 (r:Int),.int .i64 (c:Int)]:=by rw [ho];exact Blk.new _ _ _
   have z5:(wr.alloc o).cell? ⟨wr.heap.size,0,none⟩=some (.int .i64 (r:Int)):=Blk.cell zn 0
   have z6:(wr.alloc o).cell? ⟨wr.heap.size,1,none⟩=some (.int .i64 (c:Int)):=Blk.cell zn 1
   have HF:=Aside0.mk (show ∀ W u,Below (wr.alloc o).heap.size (wr.alloc o) W->u=modBit bits m i (r,c)->Brows (W.setCell ⟨q r,c,none⟩ (.bool u)) w.heap.size gg n q cp (putAll (modBit bits m) (xs.take (i+1)) 0 cf)/\Blk (W.setCell ⟨q r,c,none⟩ (.bool u)) qw 118 CS/\Below w.heap.size w (W.setCell ⟨q r,c,none⟩ (.bool u)) from fun W u hW hu=>by
    have hbr:=(hBR3.below hW (Nat.le_refl _)).set r c u hrn hcn
    have hblk:=(HBLK.out.alloc o).below hW (Blk.lt (HBLK.out.alloc o))
    have hzk:=zk.below hW (Blk.lt zk)
    refine⟨?_,hblk.far (p:=⟨q r,c,none⟩) (blk_ne hblk hzk (by decide)) _,Below.setc ((HB.out.alloc HB.out.size o).trans (hW.mono ?_)) zb _⟩
    ·rw [HNX.out]
     rw [hu] at hbr ⊢
     exact hbr
    ·exact Nat.le_trans HB.out.size (below_alloc (Below.refl wr.heap.size wr) o).size)
   have r2:i<nb->(wr.alloc o).cell? ⟨qb,i,none⟩=some (.bool b):=fun h=>cell_on (below_alloc (Below.refl _ _) o) (hbit h)
   obtain⟨qr,hqr⟩:∃ qr,q r=qr:=⟨_,rfl⟩
   obtain⟨cr,hcr⟩:∃ cr,cp r=cr:=⟨_,rfl⟩
   rw [hqr,hcr] at z1
   rw [hqr] at z3 z4 HF
   obtain⟨old,hold⟩:∃ old,putAll (modBit bits m) (xs.take i) 0 cf r c=old:=⟨_,rfl⟩
   rw [hold] at z3
   have KM:=Aside0.mk (fun W=>maskBit W m c r HM8.out (by omega) (by omega))
   obtain⟨mb,hmb⟩:∃ mb,maskB m c r=mb:=⟨_,rfl⟩
   rw [hmb] at KM HMB
   have HBLK':=HBLK
   clear hBR3 zb zc zk z2 zn hbit HNX HBR HBLK HB hqr hcr hold hmb
   subst ho
   by_cases hin:i<nb
   ·have r2:=r2 hin
    clear hbit2
    go_wp2
    clear r0 r1 r2
    obtain⟨w3,hw3⟩:∃ w3,w3=wr.alloc (Obj.cells #[.int .i64 (r:Int),.int .i64 (c:Int)] 118):=⟨_,rfl⟩
    rw [<- hw3] at z1 z3 z4 z5 z6 HF ⊢
    obtain⟨pn,hpn⟩:∃ pn,pn=wr.heap.size:=⟨_,rfl⟩
    rw [<- hpn] at z5 z6 ⊢
    clear hw3 hpn
    have km:∀ W,Calls Tryz.prog 65 #[.int .i64 (m:Int),.int .i64 (c:Int),.int .i64 (r:Int)] W fun e w'=>e=.returned (.bool mb)/\∃ j,w'=W.drewN j:=fun W=>(KM.out W).mono fun _ _ h=>⟨h.1,h.2.out⟩
    have e1:=eq_true (show (0:Int)<=(r:Int) by omega)
    have e2:=eq_true (show (r:Int)<(n:Int) by omega)
    have e3:=eq_true (show (0:Int)<=(c:Int) by omega)
    have e4:=eq_true (show (c:Int)<(n:Int) by omega)
    have HFN:=Aside0.mk (fun k=>HF.out (w3.drewN k) (!b==mb) (pw_below_drewN (Below.refl _ _) k) (by rw [HMB.out];cases b<;>cases mb<;>rfl))
    refine start_ (n:=17) (S:=fun w'=>w'.cell? ⟨pn,0,none⟩=some (.int .i64 (r:Int))/\w'.cell? ⟨gg,r,none⟩=some (.slice (some ⟨qr,0,none⟩) n cr)/\w'.cell? ⟨pn,1,none⟩=some (.int .i64 (c:Int))) (ds:=[16]) #[false,false,false,false,false,false,false,false,false,false,false,false,false,false,false,false,false] (by kernel_rfl) rfl rfl ⟨z5,z1,z6⟩ (fun hHeld=>?_)
    refine with_tabW tab6 bits6 (fun HT_ HW_=>?_)
    refine pure_ (i:=0) (N:=some 35) (v:=?_) (a':=?_) #[true,false,false,false,false,false,false,false,false,false,false,false,false,false,false,false,false] rfl rfl (any_of HT_.out (by kernel_rfl)) (fun _ _ _ h=>h) (Or.inl ⟨by rfl,?_⟩) ?_ ?_
    rotate_left
    ·intro w'
     go_simp
     try with_reducible rfl
    rotate_left
    ·simp only [Act.put,List.setIfInBounds_toArray,List.set_cons_zero,List.set_cons_succ,i64_w,i32_w]
     rfl
    refine pure_ (i:=1) (N:=some 36) (v:=?_) (a':=?_) #[true,true,false,false,false,false,false,false,false,false,false,false,false,false,false,false,false] rfl rfl (any_of HT_.out (by kernel_rfl)) (fun _ _ _ h=>h) (Or.inl ⟨by rfl,?_⟩) ?_ ?_
    rotate_left
    ·intro w'
     go_simp
     try with_reducible rfl
    rotate_left
    ·simp only [Act.put,List.setIfInBounds_toArray,List.set_cons_zero,List.set_cons_succ,i64_w,i32_w]
     rfl
    refine pure_ (i:=5) (N:=some 40) (v:=?_) (a':=?_) #[true,true,false,false,false,true,false,false,false,false,false,false,false,false,false,false,false] rfl rfl (any_of HT_.out (by kernel_rfl)) (fun _ _ _ h=>h) (Or.inl ⟨by rfl,?_⟩) ?_ ?_
    rotate_left
    ·intro w'
     go_simp
     try with_reducible rfl
    rotate_left
    ·simp only [Act.put,List.setIfInBounds_toArray,List.set_cons_zero,List.set_cons_succ,i64_w,i32_w]
     rfl
    refine pure_ (i:=7) (N:=some 42) (v:=?_) (a':=?_) #[true,true,false,false,false,true,false,true,false,false,false,false,false,false,false,false,false] rfl rfl (any_of HT_.out (by kernel_rfl)) (fun _ _ _ h=>h) (Or.inl ⟨by rfl,?_⟩) ?_ ?_
    rotate_left
    ·intro w'
     go_simp
     try with_reducible rfl
    rotate_left
    ·simp only [Act.put,List.setIfInBounds_toArray,List.set_cons_zero,List.set_cons_succ,i64_w,i32_w]
     rfl
    refine pure_ (i:=8) (N:=some 43) (v:=?_) (a':=?_) #[true,true,false,false,false,true,false,true,true,false,false,false,false,false,false,false,false] rfl rfl (any_of HT_.out (by kernel_rfl)) (fun _ _ _ h=>h) (Or.inl ⟨by rfl,?_⟩) ?_ ?_
    rotate_left
    ·intro w'
     go_simp
     try with_reducible rfl
    rotate_left
    ·simp only [Act.put,List.setIfInBounds_toArray,List.set_cons_zero,List.set_cons_succ,i64_w,i32_w]
     rfl
    refine pure_ (i:=9) (N:=some 44) (v:=?_) (a':=?_) #[true,true,false,false,false,true,false,true,true,true,false,false,false,false,false,false,false] rfl rfl (any_of HT_.out (by kernel_rfl)) (fun _ _ _ h=>h) (Or.inl ⟨by rfl,?_⟩) ?_ ?_
    rotate_left
    ·intro w'
     go_simp
     try with_reducible rfl
    rotate_left
    ·simp only [Act.put,List.setIfInBounds_toArray,List.set_cons_zero,List.set_cons_succ,i64_w,i32_w]
     rfl
    refine pure_ (i:=11) (N:=some 46) (v:=?_) (a':=?_) #[true,true,false,false,false,true,false,true,true,true,false,true,false,false,false,false,false] rfl rfl (any_of HT_.out (by kernel_rfl)) (fun _ _ _ h=>h) (Or.inl ⟨by rfl,?_⟩) ?_ ?_
    rotate_left
    ·intro w'
     go_simp
     try with_reducible rfl
    rotate_left
    ·simp only [Act.put,List.setIfInBounds_toArray,List.set_cons_zero,List.set_cons_succ,i64_w,i32_w]
     rfl
    refine take_ (i:=2) (N:=some 37) (v:=?_) (a':=?_) #[true,true,true,false,false,true,false,true,true,true,false,true,false,false,false,false,false] rfl rfl (take_ofW HT_.out HW_.out (by kernel_rfl)) (fun _ _ _ h=>h) (Or.inl ⟨by rfl,?_⟩) hHeld ?_ ?_
    rotate_left
    ·intro w' s0
     obtain⟨s1,s2,s3⟩:=s0
     go_simp
     try with_reducible rfl
    rotate_left
    ·simp only [Act.put,List.setIfInBounds_toArray,List.set_cons_zero,List.set_cons_succ,i64_w,i32_w]
     rfl
    refine pure_ (i:=3) (N:=some 38) (v:=?_) (a':=?_) #[true,true,true,true,false,true,false,true,true,true,false,true,false,false,false,false,false] rfl rfl (any_of HT_.out (by kernel_rfl)) (fun _ _ _ h=>h) (Or.inl ⟨by rfl,?_⟩) ?_ ?_
    rotate_left
    ·intro w'
     go_simp
     try with_reducible rfl
    rotate_left
    ·simp only [Act.put,List.setIfInBounds_toArray,List.set_cons_zero,List.set_cons_succ,i64_w,i32_w]
     rfl
    refine take_ (i:=4) (N:=some 39) (v:=?_) (a':=?_) #[true,true,true,true,true,true,false,true,true,true,false,true,false,false,false,false,false] rfl rfl (take_ofW HT_.out HW_.out (by kernel_rfl)) (fun _ _ _ h=>h) (Or.inl ⟨by rfl,?_⟩) hHeld ?_ ?_
    rotate_left
    ·intro w' s0
     obtain⟨s1,s2,s3⟩:=s0
     go_simp
     try with_reducible rfl
    rotate_left
    ·simp only [Act.put,List.setIfInBounds_toArray,List.set_cons_zero,List.set_cons_succ,i64_w,i32_w]
     rfl
    refine take_ (i:=6) (N:=some 41) (v:=?_) (a':=?_) #[true,true,true,true,true,true,true,true,true,true,false,true,false,false,false,false,false] rfl rfl (take_ofW HT_.out HW_.out (by kernel_rfl)) (fun _ _ _ h=>h) (Or.inl ⟨by rfl,?_⟩) hHeld ?_ ?_
    rotate_left
    ·intro w' s0
     obtain⟨s1,s2,s3⟩:=s0
     go_simp
     try with_reducible rfl
    rotate_left
    ·simp only [Act.put,List.setIfInBounds_toArray,List.set_cons_zero,List.set_cons_succ,i64_w,i32_w]
     rfl
    refine take_ (i:=10) (N:=some 45) (v:=?_) (a':=?_) #[true,true,true,true,true,true,true,true,true,true,true,true,false,false,false,false,false] rfl rfl (take_ofW HT_.out HW_.out (by kernel_rfl)) (fun _ _ _ h=>h) (Or.inl ⟨by rfl,?_⟩) hHeld ?_ ?_
    rotate_left
    ·intro w' s0
     obtain⟨s1,s2,s3⟩:=s0
     go_simp
     try with_reducible rfl
    rotate_left
    ·simp only [Act.put,List.setIfInBounds_toArray,List.set_cons_zero,List.set_cons_succ,i64_w,i32_w]
     rfl
    refine take_ (i:=12) (N:=some 47) (v:=?_) (a':=?_) #[true,true,true,true,true,true,true,true,true,true,true,true,true,false,false,false,false] rfl rfl (take_ofW HT_.out HW_.out (by kernel_rfl)) (fun _ _ _ h=>h) (Or.inl ⟨by rfl,?_⟩) hHeld ?_ ?_
    rotate_left
    ·intro w' s0
     obtain⟨s1,s2,s3⟩:=s0
     go_simp
     try with_reducible rfl
    rotate_left
    ·simp only [Act.put,List.setIfInBounds_toArray,List.set_cons_zero,List.set_cons_succ,i64_w,i32_w]
     rfl
    refine one_ (i:=13) (N:=some 48) #[true,true,true,true,true,true,true,true,true,true,true,true,true,true,false,false,false] rfl rfl (one_of HT_.out (by kernel_rfl)) (by decide) (fun K hK=>?_)
    refine goes_ Tryz.func65 (by kernel_rfl) rfl #[.int .i64 (m:Int),.int .i64 (c:Int),.int .i64 (r:Int)] (by rfl) rfl rfl (by (try simp only [List.map_toArray,List.map_cons,List.map_nil]);first | done | rfl) ?_
    refine (km _).mono ?_
    rintro e0 w5 ⟨rfl,nd,rfl⟩
    refine⟨_,rfl,?_⟩
    refine hK.out _ _ ⟨z5,z1,z6⟩ (fun hHeld=>?_)
    clear hK K
    refine norm_ (a':=?_) ?_ ?_
    rotate_left
    ·show Act.put _ (some 48) _=_
     simp only [Act.put,List.setIfInBounds_toArray,List.set_cons_zero,List.set_cons_succ,i64_w,i32_w]
     rfl
    refine pure_ (i:=14) (N:=some 49) (v:=?_) (a':=?_) #[true,true,true,true,true,true,true,true,true,true,true,true,true,true,true,false,false] rfl rfl (any_of HT_.out (by kernel_rfl)) (fun _ _ _ h=>h) (Or.inl ⟨by rfl,?_⟩) ?_ ?_
    rotate_left
    ·intro w'
     go_simp
     try with_reducible rfl
    rotate_left
    ·simp only [Act.put,List.setIfInBounds_toArray,List.set_cons_zero,List.set_cons_succ,i64_w,i32_w]
     rfl
    refine pure_ (i:=15) (N:=some 50) (v:=?_) (a':=?_) #[true,true,true,true,true,true,true,true,true,true,true,true,true,true,true,true,false] rfl rfl (any_of HT_.out (by kernel_rfl)) (fun _ _ _ h=>h) (Or.inl ⟨by rfl,?_⟩) ?_ ?_
    rotate_left
    ·intro w'
     go_simp
     try with_reducible rfl
    rotate_left
    ·simp only [Act.put,List.setIfInBounds_toArray,List.set_cons_zero,List.set_cons_succ,i64_w,i32_w]
     rfl
    refine last_ (i:=16) (N:=none) #[true,true,true,true,true,true,true,true,true,true,true,true,true,true,true,true,true] rfl rfl (one_of HT_.out (by kernel_rfl)) (by decide) (fun K hK=>?_)
    refine skip_ (w1:=?_) (by rfl) rfl ?_ ?_
    rotate_left
    ·go_simp
     rfl
    refine hK.out _ _ ?_
    clear hK K
    refine done_ (done_of HT_.out (by kernel_rfl)) ?_
    clear z1 z3 z4 z5 z6 hHeld HT_ HW_ km e1 e2 e3 e4
    go_wp2
    go_roundw
    case rel=>first | exact⟨i+1,by go_num,by omega,⟨(HFN.out _).1⟩,⟨(HFN.out _).2.1⟩,⟨(HFN.out _).2.2⟩⟩ | ((repeat apply Exists.intro);exact⟨⟨i+1,by go_num,by omega,⟨(HFN.out _).1⟩,⟨(HFN.out _).2.1⟩,⟨(HFN.out _).2.2⟩⟩,rfl⟩)
    case measure=>show ((M:Int)-((i:Int)+1)).toNat<((M:Int)-(i:Int)).toNat;omega
   ·have hb0:=hbit2 hin
    subst hb0
    clear hbit2 r2
    go_wp2
    clear r0 r1
    obtain⟨w3,hw3⟩:∃ w3,w3=wr.alloc (Obj.cells #[.int .i64 (r:Int),.int .i64 (c:Int)] 118):=⟨_,rfl⟩
    rw [<- hw3] at z1 z3 z4 z5 z6 HF ⊢
    obtain⟨pn,hpn⟩:∃ pn,pn=wr.heap.size:=⟨_,rfl⟩
    rw [<- hpn] at z5 z6 ⊢
    clear hw3 hpn
    have km:∀ W,Calls Tryz.prog 65 #[.int .i64 (m:Int),.int .i64 (c:Int),.int .i64 (r:Int)] W fun e w'=>e=.returned (.bool mb)/\∃ j,w'=W.drewN j:=fun W=>(KM.out W).mono fun _ _ h=>⟨h.1,h.2.out⟩
    have e1:=eq_true (show (0:Int)<=(r:Int) by omega)
    have e2:=eq_true (show (r:Int)<(n:Int) by omega)
    have e3:=eq_true (show (0:Int)<=(c:Int) by omega)
    have e4:=eq_true (show (c:Int)<(n:Int) by omega)
    have HFN:=Aside0.mk (fun k=>HF.out (w3.drewN k) mb (pw_below_drewN (Below.refl _ _) k) (by rw [HMB.out];cases mb<;>rfl))
    refine start_ (n:=17) (S:=fun w'=>w'.cell? ⟨pn,0,none⟩=some (.int .i64 (r:Int))/\w'.cell? ⟨gg,r,none⟩=some (.slice (some ⟨qr,0,none⟩) n cr)/\w'.cell? ⟨pn,1,none⟩=some (.int .i64 (c:Int))) (ds:=[16]) #[false,false,false,false,false,false,false,false,false,false,false,false,false,false,false,false,false] (by kernel_rfl) rfl rfl ⟨z5,z1,z6⟩ (fun hHeld=>?_)
    refine with_tabW tab6 bits6 (fun HT_ HW_=>?_)
    refine pure_ (i:=0) (N:=some 35) (v:=?_) (a':=?_) #[true,false,false,false,false,false,false,false,false,false,false,false,false,false,false,false,false] rfl rfl (any_of HT_.out (by kernel_rfl)) (fun _ _ _ h=>h) (Or.inl ⟨by rfl,?_⟩) ?_ ?_
    rotate_left
    ·intro w'
     go_simp
     try with_reducible rfl
    rotate_left
    ·simp only [Act.put,List.setIfInBounds_toArray,List.set_cons_zero,List.set_cons_succ,i64_w,i32_w]
     rfl
    refine pure_ (i:=1) (N:=some 36) (v:=?_) (a':=?_) #[true,true,false,false,false,false,false,false,false,false,false,false,false,false,false,false,false] rfl rfl (any_of HT_.out (by kernel_rfl)) (fun _ _ _ h=>h) (Or.inl ⟨by rfl,?_⟩) ?_ ?_
    rotate_left
    ·intro w'
     go_simp
     try with_reducible rfl
    rotate_left
    ·simp only [Act.put,List.setIfInBounds_toArray,List.set_cons_zero,List.set_cons_succ,i64_w,i32_w]
     rfl
    refine pure_ (i:=5) (N:=some 40) (v:=?_) (a':=?_) #[true,true,false,false,false,true,false,false,false,false,false,false,false,false,false,false,false] rfl rfl (any_of HT_.out (by kernel_rfl)) (fun _ _ _ h=>h) (Or.inl ⟨by rfl,?_⟩) ?_ ?_
    rotate_left
    ·intro w'
     go_simp
     try with_reducible rfl
    rotate_left
    ·simp only [Act.put,List.setIfInBounds_toArray,List.set_cons_zero,List.set_cons_succ,i64_w,i32_w]
     rfl
    refine pure_ (i:=7) (N:=some 42) (v:=?_) (a':=?_) #[true,true,false,false,false,true,false,true,false,false,false,false,false,false,false,false,false] rfl rfl (any_of HT_.out (by kernel_rfl)) (fun _ _ _ h=>h) (Or.inl ⟨by rfl,?_⟩) ?_ ?_
    rotate_left
    ·intro w'
     go_simp
     try with_reducible rfl
    rotate_left
    ·simp only [Act.put,List.setIfInBounds_toArray,List.set_cons_zero,List.set_cons_succ,i64_w,i32_w]
     rfl
    refine pure_ (i:=8) (N:=some 43) (v:=?_) (a':=?_) #[true,true,false,false,false,true,false,true,true,false,false,false,false,false,false,false,false] rfl rfl (any_of HT_.out (by kernel_rfl)) (fun _ _ _ h=>h) (Or.inl ⟨by rfl,?_⟩) ?_ ?_
    rotate_left
    ·intro w'
     go_simp
     try with_reducible rfl
    rotate_left
    ·simp only [Act.put,List.setIfInBounds_toArray,List.set_cons_zero,List.set_cons_succ,i64_w,i32_w]
     rfl
    refine pure_ (i:=9) (N:=some 44) (v:=?_) (a':=?_) #[true,true,false,false,false,true,false,true,true,true,false,false,false,false,false,false,false] rfl rfl (any_of HT_.out (by kernel_rfl)) (fun _ _ _ h=>h) (Or.inl ⟨by rfl,?_⟩) ?_ ?_
    rotate_left
    ·intro w'
     go_simp
     try with_reducible rfl
    rotate_left
    ·simp only [Act.put,List.setIfInBounds_toArray,List.set_cons_zero,List.set_cons_succ,i64_w,i32_w]
     rfl
    refine pure_ (i:=11) (N:=some 46) (v:=?_) (a':=?_) #[true,true,false,false,false,true,false,true,true,true,false,true,false,false,false,false,false] rfl rfl (any_of HT_.out (by kernel_rfl)) (fun _ _ _ h=>h) (Or.inl ⟨by rfl,?_⟩) ?_ ?_
    rotate_left
    ·intro w'
     go_simp
     try with_reducible rfl
    rotate_left
    ·simp only [Act.put,List.setIfInBounds_toArray,List.set_cons_zero,List.set_cons_succ,i64_w,i32_w]
     rfl
    refine take_ (i:=2) (N:=some 37) (v:=?_) (a':=?_) #[true,true,true,false,false,true,false,true,true,true,false,true,false,false,false,false,false] rfl rfl (take_ofW HT_.out HW_.out (by kernel_rfl)) (fun _ _ _ h=>h) (Or.inl ⟨by rfl,?_⟩) hHeld ?_ ?_
    rotate_left
    ·intro w' s0
     obtain⟨s1,s2,s3⟩:=s0
     go_simp
     try with_reducible rfl
    rotate_left
    ·simp only [Act.put,List.setIfInBounds_toArray,List.set_cons_zero,List.set_cons_succ,i64_w,i32_w]
     rfl
    refine pure_ (i:=3) (N:=some 38) (v:=?_) (a':=?_) #[true,true,true,true,false,true,false,true,true,true,false,true,false,false,false,false,false] rfl rfl (any_of HT_.out (by kernel_rfl)) (fun _ _ _ h=>h) (Or.inl ⟨by rfl,?_⟩) ?_ ?_
    rotate_left
    ·intro w'
     go_simp
     try with_reducible rfl
    rotate_left
    ·simp only [Act.put,List.setIfInBounds_toArray,List.set_cons_zero,List.set_cons_succ,i64_w,i32_w]
     rfl
    refine take_ (i:=4) (N:=some 39) (v:=?_) (a':=?_) #[true,true,true,true,true,true,false,true,true,true,false,true,false,false,false,false,false] rfl rfl (take_ofW HT_.out HW_.out (by kernel_rfl)) (fun _ _ _ h=>h) (Or.inl ⟨by rfl,?_⟩) hHeld ?_ ?_
    rotate_left
    ·intro w' s0
     obtain⟨s1,s2,s3⟩:=s0
     go_simp
     try with_reducible rfl
    rotate_left
    ·simp only [Act.put,List.setIfInBounds_toArray,List.set_cons_zero,List.set_cons_succ,i64_w,i32_w]
     rfl
    refine take_ (i:=6) (N:=some 41) (v:=?_) (a':=?_) #[true,true,true,true,true,true,true,true,true,true,false,true,false,false,false,false,false] rfl rfl (take_ofW HT_.out HW_.out (by kernel_rfl)) (fun _ _ _ h=>h) (Or.inl ⟨by rfl,?_⟩) hHeld ?_ ?_
    rotate_left
    ·intro w' s0
     obtain⟨s1,s2,s3⟩:=s0
     go_simp
     try with_reducible rfl
    rotate_left
    ·simp only [Act.put,List.setIfInBounds_toArray,List.set_cons_zero,List.set_cons_succ,i64_w,i32_w]
     rfl
    refine take_ (i:=10) (N:=some 45) (v:=?_) (a':=?_) #[true,true,true,true,true,true,true,true,true,true,true,true,false,false,false,false,false] rfl rfl (take_ofW HT_.out HW_.out (by kernel_rfl)) (fun _ _ _ h=>h) (Or.inl ⟨by rfl,?_⟩) hHeld ?_ ?_
    rotate_left
    ·intro w' s0
     obtain⟨s1,s2,s3⟩:=s0
     go_simp
     try with_reducible rfl
    rotate_left
    ·simp only [Act.put,List.setIfInBounds_toArray,List.set_cons_zero,List.set_cons_succ,i64_w,i32_w]
     rfl
    refine take_ (i:=12) (N:=some 47) (v:=?_) (a':=?_) #[true,true,true,true,true,true,true,true,true,true,true,true,true,false,false,false,false] rfl rfl (take_ofW HT_.out HW_.out (by kernel_rfl)) (fun _ _ _ h=>h) (Or.inl ⟨by rfl,?_⟩) hHeld ?_ ?_
    rotate_left
    ·intro w' s0
     obtain⟨s1,s2,s3⟩:=s0
     go_simp
     try with_reducible rfl
    rotate_left
    ·simp only [Act.put,List.setIfInBounds_toArray,List.set_cons_zero,List.set_cons_succ,i64_w,i32_w]
     rfl
    refine one_ (i:=13) (N:=some 48) #[true,true,true,true,true,true,true,true,true,true,true,true,true,true,false,false,false] rfl rfl (one_of HT_.out (by kernel_rfl)) (by decide) (fun K hK=>?_)
    refine goes_ Tryz.func65 (by kernel_rfl) rfl #[.int .i64 (m:Int),.int .i64 (c:Int),.int .i64 (r:Int)] (by rfl) rfl rfl (by (try simp only [List.map_toArray,List.map_cons,List.map_nil]);first | done | rfl) ?_
    refine (km _).mono ?_
    rintro e0 w5 ⟨rfl,nd,rfl⟩
    refine⟨_,rfl,?_⟩
    refine hK.out _ _ ⟨z5,z1,z6⟩ (fun hHeld=>?_)
    clear hK K
    refine norm_ (a':=?_) ?_ ?_
    rotate_left
    ·show Act.put _ (some 48) _=_
     simp only [Act.put,List.setIfInBounds_toArray,List.set_cons_zero,List.set_cons_succ,i64_w,i32_w]
     rfl
    refine pure_ (i:=14) (N:=some 49) (v:=?_) (a':=?_) #[true,true,true,true,true,true,true,true,true,true,true,true,true,true,true,false,false] rfl rfl (any_of HT_.out (by kernel_rfl)) (fun _ _ _ h=>h) (Or.inl ⟨by rfl,?_⟩) ?_ ?_
    rotate_left
    ·intro w'
     go_simp
     try with_reducible rfl
    rotate_left
    ·simp only [Act.put,List.setIfInBounds_toArray,List.set_cons_zero,List.set_cons_succ,i64_w,i32_w]
     rfl
    refine pure_ (i:=15) (N:=some 50) (v:=?_) (a':=?_) #[true,true,true,true,true,true,true,true,true,true,true,true,true,true,true,true,false] rfl rfl (any_of HT_.out (by kernel_rfl)) (fun _ _ _ h=>h) (Or.inl ⟨by rfl,?_⟩) ?_ ?_
    rotate_left
    ·intro w'
     go_simp
     try with_reducible rfl
    rotate_left
    ·simp only [Act.put,List.setIfInBounds_toArray,List.set_cons_zero,List.set_cons_succ,i64_w,i32_w]
     rfl
    refine last_ (i:=16) (N:=none) #[true,true,true,true,true,true,true,true,true,true,true,true,true,true,true,true,true] rfl rfl (one_of HT_.out (by kernel_rfl)) (by decide) (fun K hK=>?_)
    refine skip_ (w1:=?_) (by rfl) rfl ?_ ?_
    rotate_left
    ·go_simp
     rfl
    refine hK.out _ _ ?_
    clear hK K
    refine done_ (done_of HT_.out (by kernel_rfl)) ?_
    clear z1 z3 z4 z5 z6 hHeld HT_ HW_ km e1 e2 e3 e4
    go_wp2
    go_roundw
    case rel=>first | exact⟨i+1,by go_num,by omega,⟨(HFN.out _).1⟩,⟨(HFN.out _).2.1⟩,⟨(HFN.out _).2.2⟩⟩ | ((repeat apply Exists.intro);exact⟨⟨i+1,by go_num,by omega,⟨(HFN.out _).1⟩,⟨(HFN.out _).2.1⟩,⟨(HFN.out _).2.2⟩⟩,rfl⟩)
    case measure=>show ((M:Int)-((i:Int)+1)).toNat<((M:Int)-(i:Int)).toNat;omega
  ·have:i=M:=by omega
   subst this
   go_wp2
   go_ret
   exact⟨gg,cg,q,cp,rfl,hcg,by have:=HBR.out;rwa [List.take_of_length_le (by rw [HM.out];exact Nat.le_refl _)] at this,HB.out⟩
theorem roomD_pos (v l:Nat)(hv:1<=v/\v<=40)(hl:l<4):0<roomD v l/\roomD v l<=5000:=by
 have L:=lay_at v l hv hl
 have h1:=L.tot
 have h2:=(tot_row v hv).2
 have h3:0<lvD v l*(lvC v l+lvC2 v l):=Nat.mul_pos L.d1 (by have:=L.c1;omega)
 unfold roomD
 omega
theorem room_pos (v:Nat)(hv:1<=v/\v<=40):0<roomN v/8/\roomN v/8<=5000:=by
 have L:=lay_at v 0 hv (by decide)
 have h1:=L.tot
 have h2:=(tot_row v hv).2
 have h3:0<lvD v 0*(lvC v 0+lvC2 v 0):=Nat.mul_pos L.d1 (by have:=L.c1;omega)
 omega
def symWords (v l:Nat)(ws:List Nat):List Nat:=mixedW (lvC v l) (lvD v l) (lvC2 v l) (lvE v l) fun k i=>(codeB (lvC v l) (lvD v l) (lvE v l) ws k).getD i 0
theorem symWords_lt (v l:Nat)(ws:List Nat)(hw:AllLt 8 ws):AllLt 8 (symWords v l ws):=by
 have h8:∀ k i,(codeB (lvC v l) (lvD v l) (lvE v l) ws k).getD i 0<256:=fun k i=>getD_lt (codeB_lt _ _ _ ws k hw) i
 intro x hx
 unfold symWords at hx
 rw [mixed_split] at hx
 simp only [List.mem_append,List.mem_flatMap,List.mem_map] at hx
 rcases hx with (⟨_,_,_,_,rfl⟩ | ⟨_,_,rfl⟩) | ⟨_,_,_,_,rfl⟩
 ·exact h8 _ _
 ·exact h8 _ _
 ·exact h8 _ _
theorem Brows.mono {w:World}{B B' g n:Nat}{q cp:Nat->Nat}{cf:Nat->Nat->Bool}(h:Brows w B g n q cp cf)(hb:B'<=B):Brows w B' g n q cp cf :=
 ⟨Nat.le_trans hb h.base,h.blk,fun r hr=>by obtain⟨k1,k2,k3⟩:=h.row r hr;exact⟨k1,Nat.le_trans hb k2,k3⟩,h.inj⟩
theorem bool_own {w:World}{base:Nat}{v:Value}{xs:List Bool}(h:BOwn w base v xs)(h0:0<xs.length) :
  ∃ q c,v=.slice (some ⟨q,0,none⟩) xs.length c/\q<w.heap.size/\∀ i,i<xs.length->w.cell? ⟨q,i,none⟩=some (.bool (xs.getD i false)):=by
 obtain⟨hlen,h2⟩:=h
 rcases h2 with⟨_,h3⟩ | ⟨q,c,cs,rfl,hb,hh,hc,hm,hs,ht⟩
 ·omega
 ·refine⟨q,c,rfl,Blk.lt hh,fun i hi=>?_⟩
  rw [Blk.cell hh i]
  have h5:(cs.toList.take xs.length)[i]? = (bools xs)[i]?:=by rw [Nat.mul_one] at ht;rw [ht]
  rw [List.getElem?_take_of_lt hi] at h5
  rw [<- Array.getElem?_toList,h5]
  simp [bools,List.getElem?_map,List.getElem?_eq_getElem hi,List.getD_eq_getElem?_getD]
theorem bool_own' {w:World}{base nb:Nat}{v:Value}{xs:List Bool}(h:BOwn w base v xs)(hn:xs.length=nb)(h0:0<nb) :
  ∃ q c,v=.slice (some ⟨q,0,none⟩) nb c/\q<w.heap.size/\∀ i,i<nb->w.cell? ⟨q,i,none⟩=some (.bool (xs.getD i false)):=by
 subst hn
 exact bool_own h h0
end Go.Proofs.YtgccjgpdjkhpdaaGreat.B
