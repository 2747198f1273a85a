import Derived.BigQuiet
import Derived.Test.YtgccjgpdjkhpdaaGreatVQ10
import Derived.Test.YtgccjgpdjkhpdaaGreatVQ26
/-! Own texts of this claim, part 14. -/
namespace Go.Proofs.YtgccjgpdjkhpdaaGreat.B
open Go.RowKit Go.Proofs.YtgccjgpdjkhpdaaGreatW.PrintWords Go.Proofs.YtgccjgpdjkhpdaaGreatW.PrintLast Go.Proofs.YtgccjgpdjkhpdaaGreatW.PrintMore
set_option linter.unusedVariables false
set_option linter.unusedSimpArgs false
def Drawn (w w':World):Prop:=∃ n,w'=w.drewN n
theorem gfExp (w:World)(gf m p b i:Nat)(h:GFAt w gf m p b)(hi:i<2 ^ m):Calls Tryz.prog 176 #[.pointer (some ⟨gf,0,none⟩),.int .i64 (i:Int)] w fun e w'=>e=.returned (.int .i64 (gx m p i:Int))/\w'=w:=by
 obtain⟨ge,gl,zp,op,ls,h1,h2,-⟩:=h
 have c0:w.cell? ⟨gf,0,none⟩=some (.slice (some ⟨ge,0,none⟩) (2 ^ m) (2 ^ m)):=h1.cell 0
 have k:=h2.cell i (by rw [exps_len];exact hi)
 rw [exps_get m p i hi] at k
 obtain⟨N,hN⟩:∃ N,2 ^ m=N:=⟨_,rfl⟩
 obtain⟨x,hx⟩:∃ x,gx m p i=x:=⟨_,rfl⟩
 rw [hN] at c0 hi
 rw [hx] at k ⊢
 clear h1 h2 hN hx
 go_enter Tryz.func176,Tryz.ntmps176
 go_wp2
 go_ret
 exact⟨rfl,rfl⟩
theorem gfBase (w:World)(gf m p b:Nat)(h:GFAt w gf m p b):Calls Tryz.prog 177 #[.pointer (some ⟨gf,0,none⟩)] w fun e w'=>e=.returned (.int .i64 (b:Int))/\w'=w:=by
 obtain⟨ge,gl,zp,op,ls,h1,-⟩:=h
 have c0:w.cell? ⟨gf,6,none⟩=some (.int .i64 (b:Int)):=h1.cell 6
 clear h1
 go_enter Tryz.func177,Tryz.ntmps177
 go_wp2
 go_ret
 exact⟨rfl,rfl⟩
theorem addSub (w:World)(a b:Nat)(ha:a<4294967296)(hb:b<4294967296):Calls Tryz.prog 184 #[.int .i64 (a:Int),.int .i64 (b:Int)] w fun e w'=>e=.returned (.int .i64 ((a ^^^ b:Nat):Int))/\w'=w:=by
 have k:=i64_xor_nat a b ha hb
 go_enter Tryz.func184,Tryz.ntmps184
 go_wp2
 go_ret
 exact⟨rfl,rfl⟩
theorem tmod_nat (s n:Nat):Int.tmod (s:Int) (n:Int)=((s%n:Nat):Int):=by
 rw [Int.tmod_eq_emod_of_nonneg (by omega)]
 rfl
theorem gfMul (w:World)(gf m p b x y:Nat)(F:Fld m p)(hP:Prim m p)(hm:m<=12)(h:GFAt w gf m p b)(hx:x<2 ^ m)(hy:y<2 ^ m):Calls Tryz.prog 186 #[.pointer (some ⟨gf,0,none⟩),.int .i64 (x:Int),.int .i64 (y:Int)] w fun e w'=>e=.returned (.int .i64 (gm m p x y:Int))/\Drawn w w':=by
 by_cases hx0:x=0
 ·subst hx0
  rw [gm_zero_left]
  clear h hx hy
  go_enter Tryz.func186,Tryz.ntmps186
  go_wp2
  go_ret
  exact⟨rfl,0,rfl⟩
 ·by_cases hy0:y=0
  ·subst hy0
   rw [gm_zero_right]
   clear h hx hy
   go_enter Tryz.func186,Tryz.ntmps186
   go_wp2
   go_ret
   exact⟨rfl,0,rfl⟩
  ·obtain⟨i,hi,hgi⟩:=gx_log F hP x hx0 hx
   obtain⟨j,hj,hgj⟩:=gx_log F hP y hy0 hy
   obtain⟨ge,gl,zp,op,ls,h1,h2,h3,h4,-⟩:=h
   have c0:w.cell? ⟨gf,0,none⟩=some (.slice (some ⟨ge,0,none⟩) (2 ^ m) (2 ^ m)):=h1.cell 0
   have c1:w.cell? ⟨gf,1,none⟩=some (.slice (some ⟨gl,0,none⟩) (2 ^ m) (2 ^ m)):=h1.cell 1
   have c4:w.cell? ⟨gf,4,none⟩=some (.int .i64 ((2 ^ m:Nat):Int)):=h1.cell 4
   have l1:=h3.cell x (by rw [h4.len];exact hx)
   have l2:=h3.cell y (by rw [h4.len];exact hy)
   rw [<- hgi,h4.log i hi,hgi] at l1
   rw [<- hgj,h4.log j hj,hgj] at l2
   have ho:=ord_pos F
   have hq:(i+j)%(2 ^ m-1)<2 ^ m:=Nat.lt_of_lt_of_le (Nat.mod_lt _ ho) (Nat.sub_le _ _)
   have l3:=h2.cell ((i+j)%(2 ^ m-1)) (by rw [exps_len];exact hq)
   rw [exps_get m p _ hq,<- gm_tab F hP,hgi,hgj] at l3
   obtain⟨N,hN⟩:∃ N,2 ^ m=N:=⟨_,rfl⟩
   have hN4:N<=4096:=by rw [<- hN];exact Nat.le_trans (Nat.pow_le_pow_right (by omega) hm) (by decide)
   rw [hN] at c0 c1 c4 l3 hi hj hx hy ho hq
   obtain⟨s,hs⟩:∃ s,(i+j)%(N-1)=s:=⟨_,rfl⟩
   obtain⟨r,hr⟩:∃ r,gm m p x y=r:=⟨_,rfl⟩
   have ht:Int.tmod ((i:Int)+(j:Int)) ((N:Int)-1)=(s:Int):=by
    rw [show (i:Int)+(j:Int)=((i+j:Nat):Int) by omega,show (N:Int)-1=((N-1:Nat):Int) by omega,tmod_nat,hs]
   rw [hs] at l3 hq
   rw [hr] at l3 ⊢
   have bx:((x:Int)==0)=false:=by simp;omega
   have by_:((y:Int)==0)=false:=by simp;omega
   have hne:¬ ((N:Int)-1=0):=by omega
   clear h1 h2 h3 h4 hN hs hr hgi hgj F hP
   go_enter Tryz.func186,Tryz.ntmps186
   go_wp2
   go_quiet (fail)
   go_wp2
   go_ret
   exact⟨rfl,_,rfl⟩
theorem take_snoc (xs:List Nat)(i:Nat)(h:i<xs.length):xs.take (i+1)=xs.take i++[xs.getD i 0]:=by
 rw [List.take_add_one,List.getElem?_eq_getElem h]
 simp [List.getD,List.getElem?_eq_getElem h]
theorem pev_take {m p:Nat}(F:Fld m p)(r:Nat)(hr:r<2 ^ m)(xs:List Nat)(hl:AllLt m xs)(i:Nat)(hi:i<xs.length):pev m p r (xs.take (i+1))=gm m p r (pev m p r (xs.take i)) ^^^ xs.getD i 0:=by
 have h1:AllLt m (xs.take i):=fun x hx=>hl x (List.mem_of_mem_take hx)
 have h2:xs.getD i 0<2 ^ m:=hl _ (by simp [List.getD,List.getElem?_eq_getElem hi])
 rw [take_snoc xs i hi,pev_snoc F r hr _ _ h1 h2,gm_comm F _ r (pev_lt F r _ h1) hr]
theorem getD_lt {m:Nat}{xs:List Nat}(hl:AllLt m xs)(i:Nat):xs.getD i 0<2 ^ m:=by
 by_cases h:i<xs.length
 ·exact hl _ (by simp [List.getD,List.getElem?_eq_getElem h])
 ·simp [List.getD,List.getElem?_eq_none (Nat.le_of_not_lt h),Nat.two_pow_pos]
theorem pev_nought {m p:Nat}(F:Fld m p)(xs:List Nat)(hl:AllLt m xs)(h0:xs≠[]):pev m p 0 xs=xs.getD (xs.length-1) 0:=by
 have hpos:0<xs.length:=by cases xs with | nil=>exact absurd rfl h0 | cons _ _=>simp
 have:=pev_take F 0 (Nat.two_pow_pos m) xs hl (xs.length-1) (by omega)
 rw [show xs.length-1+1=xs.length by omega,List.take_length,gm_zero_left,Nat.zero_xor] at this
 exact this
theorem polyCoef (w:World)(q gf k:Nat)(xs:List Nat)(h:PolyAt w q gf xs)(hk:k<xs.length)(hl:xs.length<=100000):Calls Tryz.prog 185 #[.pointer (some ⟨q,0,none⟩),.int .i64 (k:Int)] w fun e w'=>e=.returned (.int .i64 ((xs.getD (xs.length-1-k) 0:Nat):Int))/\Drawn w w':=by
 obtain⟨g,o,c,h1,h2,h3,h4⟩:=h
 have c1:w.cell? ⟨q,1,none⟩=some (.slice (some ⟨g,o,none⟩) xs.length c):=h1.cell 1
 have k1:=h3.at_ (xs.length-1-k) (by omega)
 obtain⟨v,hv⟩:∃ v,xs.getD (xs.length-1-k) 0=v:=⟨_,rfl⟩
 rw [hv] at k1 ⊢
 obtain⟨n,hn⟩:∃ n,xs.length=n:=⟨_,rfl⟩
 rw [hn] at c1 k1 hk hl h2
 obtain⟨i,hi⟩:∃ i,n-1-k=i:=⟨_,rfl⟩
 rw [hi] at k1
 have hii:(n:Int)-1-(k:Int)=(i:Int):=by omega
 have hin:i<n:=by omega
 clear h1 h3 h4 hv hn hi
 go_enter Tryz.func185,Tryz.ntmps185
 go_wp2
 go_quiet (fail)
 go_wp2
 go_ret
 exact⟨rfl,_,rfl⟩
theorem Drawn.below {w w':World}(h:Drawn w w'):Below w.heap.size w w':=by
 obtain⟨n,rfl⟩:=h
 exact pw_below_drewN (Below.refl _ _) n
theorem Drawn.more {w w':World}(h:Drawn w w')(n:Nat):Drawn w (w'.drewN n):=by
 obtain⟨k,rfl⟩:=h
 exact⟨k+n,by rw [World.drewN_drewN]⟩
theorem Drawn.refl (w:World):Drawn w w:=⟨0,rfl⟩
theorem Drawn.trans {a b c:World}(h:Drawn a b)(k:Drawn b c):Drawn a c:=by
 obtain⟨n,rfl⟩:=k
 exact h.more n
theorem GFAt.drawn {w:World}{gf m p b:Nat}(h:GFAt w gf m p b)(n:Nat):GFAt (w.drewN n) gf m p b:=h.below (pw_below_drewN (Below.refl w.heap.size w) n) (Nat.le_refl _)
theorem PolyAt.drawn {w:World}{q gf:Nat}{xs:List Nat}(h:PolyAt w q gf xs)(n:Nat):PolyAt (w.drewN n) q gf xs:=h.below (pw_below_drewN (Below.refl w.heap.size w) n) (Nat.le_refl _)
set_option maxHeartbeats 1000000 in
theorem polyEval (w:World)(q gf m p b a:Nat)(xs:List Nat)(F:Fld m p)(hP:Prim m p)(hm:m<=12)(hG:GFAt w gf m p b)(h:PolyAt w q gf xs)(hx:AllLt m xs)(ha:a<2 ^ m)(hl:xs.length<=100000) :
  Calls Tryz.prog 175 #[.pointer (some ⟨q,0,none⟩),.int .i64 (a:Int)] w fun e w'=>e=.returned (.int .i64 (pev m p a xs:Int))/\Drawn w w':=by
 obtain⟨N,hN⟩:∃ N,2 ^ m=N:=⟨_,rfl⟩
 have hN4:N<=4096:=by rw [<- hN];exact Nat.le_trans (Nat.pow_le_pow_right (by omega) hm) (by decide)
 have hN2:2<=N:=by rw [<- hN];exact Nat.le_trans (by decide:2<=2 ^ 1) (Nat.pow_le_pow_right (by omega) F.one)
 have hpv:∀ i,pev m p a (xs.take i)<N:=fun i=>by rw [<- hN];exact pev_lt F a _ (fun x hx'=>hx x (List.mem_of_mem_take hx'))
 have hgl:∀ i,xs.getD i 0<N:=fun i=>by rw [<- hN];exact getD_lt hx i
 have hstep:=pev_take F a ha xs hx
 have h0:xs≠[]:=by obtain⟨g,o,c,h1,h2,h3,h4⟩:=h;exact h4
 have hpos:0<xs.length:=by cases hxs:xs with | nil=>exact absurd hxs h0 | cons _ _=>simp
 obtain⟨n,hn⟩:∃ n,xs.length=n:=⟨_,rfl⟩
 by_cases ha0:a=0
 ·have k:=polyCoef w q gf 0 xs h hpos hl
  rw [Nat.sub_zero,<- pev_nought F xs hx h0,<- ha0] at k
  obtain⟨v,hv⟩:∃ v,pev m p a xs=v:=⟨_,rfl⟩
  rw [hv] at k ⊢
  clear hv hstep hpv hgl h hG hx ha hN F hP
  subst ha0
  go_enter Tryz.func175,Tryz.ntmps175
  go_wp2_with (go_at_call 185;refine k.mono ?_;rintro e w' ⟨rfl,hd⟩)
  go_ret
  exact⟨rfl,hd⟩
 ·have HF:=Aside0.mk F
  have HP:=Aside0.mk hP
  have HX:=Aside0.mk hx
  have HG:=Aside0.mk hG
  have HPO:=Aside0.mk h
  have HPV:=Aside0.mk hpv
  have HGL:=Aside0.mk hgl
  have HST:=Aside0.mk hstep
  have HN:=Aside0.mk hN
  have HA:=Aside0.mk ha
  have hall:xs.take n=xs:=by rw [<- hn];exact List.take_length
  have HALL:=Aside0.mk hall
  have HLN:=Aside0.mk hn
  rw [hn] at hpos hl
  have haN:a<N:=by rw [<- hN];exact ha
  obtain⟨g,o,c,h1,h2,h3,h4⟩:=h
  rw [hn] at h1 h2
  have c0:w.cell? ⟨q,0,none⟩=some (.pointer (some ⟨gf,0,none⟩)):=h1.cell 0
  have c1:w.cell? ⟨q,1,none⟩=some (.slice (some ⟨g,o,none⟩) n c):=h1.cell 1
  have HR:=Aside0.mk h3
  have HB1:=Aside0.mk h1
  have hp1:xs.getD 0 0=pev m p a (xs.take 1):=by
   have:=hstep 0 (by omega)
   rw [List.take_zero] at this
   rw [this]
   show _=gm m p a 0 ^^^ _
   rw [gm_zero_right,Nat.zero_xor]
  have HP1:=Aside0.mk hp1
  clear F hP hx hG h1 h3 h4 hpv hgl hstep hN ha hall hn h0 hp1
  by_cases ha1:a=1
  ·subst ha1
   show Calls Tryz.prog 175 #[.pointer (some ⟨q,0,none⟩),.int .i64 1] w _
   go_enter Tryz.func175,Tryz.ntmps175
   go_wp2
   go_loopw [5,22] (fun vr vi wr=>∃ i r:Nat,vi=.int .i64 (i:Int)/\vr=.int .i64 (r:Int)/\i<=n/\r<4096/\Aside0 (r=pev m p 1 (xs.take i))/\wr=w) (fun _ vi _=>(n-intOf vi).toNat)
   case atStart=>exact⟨0,0,rfl,rfl,by omega,by omega,⟨by rfl⟩,by first | rfl | trivial⟩
   case round=>
    obtain⟨i,r,rfl,rfl,hi,hr,HRR,rfl⟩:=hrel
    by_cases hin:i<n
    ·have k1:=HR.out.at_ i (by rw [HLN.out];exact hin)
     obtain⟨x,hx⟩:∃ x,xs.getD i 0=x:=⟨_,rfl⟩
     rw [hx] at k1
     have hxN:x<4096:=by have:=HGL.out i;omega
     have hnew:r ^^^ x=pev m p 1 (xs.take (i+1)):=by
      rw [HST.out i (by rw [HLN.out];exact hin),hx,<- HRR.out,gm_one_left HF.out r (by rw [HN.out,HRR.out];exact HPV.out i)]
     obtain⟨r2,hr2⟩:∃ r2,r ^^^ x=r2:=⟨_,rfl⟩
     have hr2N:r2<4096:=by rw [<- hr2,hnew];have:=HPV.out (i+1);omega
     have ka:=addSub wr r x (by omega) (by omega)
     rw [hr2] at ka hnew
     have HNEW:=Aside0.mk hnew
     clear hx hnew hr2
     go_wp2_with (go_at_call 184;refine ka.mono ?_;rintro e w' ⟨rfl,rfl⟩)
     go_roundw
     case rel=>exact⟨i+1,r2,by go_num,rfl,by omega,by omega,HNEW,by first | rfl | trivial⟩
     case measure=>simp [intOf];omega
    ·have:n=i:=by omega
     subst this
     go_wp2
     go_ret
     have e:pev m p 1 xs=r:=by rw [HRR.out,HALL.out]
     exact⟨by first | (rw [e];done) | (rw [e];rfl),Drawn.refl _⟩
  ·have ba0:((a:Int)==0)=false:=by simp;omega
   have ba1:((a:Int)==1)=false:=by simp;omega
   have k0:=HR.out.at_ 0 (by rw [HLN.out];exact hpos)
   rw [Nat.add_zero,HP1.out] at k0
   obtain⟨r0,hr0⟩:∃ r0,pev m p a (xs.take 1)=r0:=⟨_,rfl⟩
   rw [hr0] at k0
   have HR0:=Aside0.mk hr0
   have hr0N:r0<4096:=by rw [<- hr0];have:=HPV.out 1;omega
   clear hr0
   go_enter Tryz.func175,Tryz.ntmps175
   go_wp2
   go_loopw [8,10] (fun vr vi wr=>∃ i r:Nat,vi=.int .i64 (i:Int)/\vr=.int .i64 (r:Int)/\1<=i/\i<=n/\r<4096/\Aside0 (r=pev m p a (xs.take i))/\Aside0 (Drawn w wr)) (fun _ vi _=>(n-intOf vi).toNat)
   case atStart=>exact⟨1,r0,rfl,rfl,by omega,by omega,by omega,⟨HR0.out.symm⟩,⟨Drawn.refl _⟩⟩
   case round=>
    obtain⟨i,r,rfl,rfl,hi1,hi,hr,HRR,HD⟩:=hrel
    by_cases hin:i<n
    ·have d0:wr.cell? ⟨q,0,none⟩=some (.pointer (some ⟨gf,0,none⟩)):=(HB1.out.below HD.out.below HB1.out.lt).cell 0
     have d1:wr.cell? ⟨q,1,none⟩=some (.slice (some ⟨g,o,none⟩) n c):=(HB1.out.below HD.out.below HB1.out.lt).cell 1
     have k1:=(HR.out.below HD.out.below HR.out.lt).at_ i (by rw [HLN.out];exact hin)
     have hGd:=HG.out.below HD.out.below (Nat.le_refl _)
     have HGD:=Aside0.mk hGd
     obtain⟨x,hx⟩:∃ x,xs.getD i 0=x:=⟨_,rfl⟩
     rw [hx] at k1
     have hxN:x<4096:=by have:=HGL.out i;omega
     have hrN:r<2 ^ m:=by rw [HN.out,HRR.out];exact HPV.out i
     obtain⟨y,hy⟩:∃ y,gm m p a r=y:=⟨_,rfl⟩
     have hyN:y<4096:=by rw [<- hy];have:=gm_lt HF.out a r HA.out;rw [HN.out] at this;omega
     have hnew:y ^^^ x=pev m p a (xs.take (i+1)):=by
      rw [HST.out i (by rw [HLN.out];exact hin),hx,<- HRR.out,hy]
     obtain⟨r2,hr2⟩:∃ r2,y ^^^ x=r2:=⟨_,rfl⟩
     have hr2N:r2<4096:=by rw [<- hr2,hnew];have:=HPV.out (i+1);omega
     have km:=fun k=>gfMul (wr.drewN k) gf m p b a r HF.out HP.out hm (HGD.out.drawn k) HA.out hrN
     have ka:=fun k=>addSub (wr.drewN k) y x (by omega) (by omega)
     rw [hy] at km
     rw [hr2] at ka hnew
     have HNEW:=Aside0.mk hnew
     clear hx hnew hr2 hGd hy hrN c0 c1 k0
     go_wp2
     go_quiet (first
      | (go_at_call 186;exact Calls.quiet_of (km _))
      | (go_at_call 184;exact Calls.quiet_of_same (ka _)))
     clear km ka
     go_wp2
     go_roundw
     case rel=>exact⟨i+1,r2,by go_num,rfl,by omega,by omega,by omega,HNEW,⟨HD.out.more _⟩⟩
     case measure=>simp [intOf];omega
    ·have:n=i:=by omega
     subst this
     go_wp2
     go_ret
     have e:pev m p a xs=r:=by rw [HRR.out,HALL.out]
     exact⟨by first | (rw [e];done) | (rw [e];rfl),HD.out⟩
def CBits (w:World)(q o:Nat)(xs:List Bool):Prop:=∀ i,i<xs.length->w.cell? ⟨q,o+i,none⟩=some (.bool (xs.getD i false))
theorem CBits.below {w w':World}{q o B:Nat}{xs:List Bool}(h:CBits w q o xs)(hb:Below B w w')(hq:q<B):CBits w' q o xs:=fun i hi=>by
 have:=h i hi
 rw [<- this]
 exact hb.cell hq
theorem CBits.drop {w:World}{q o:Nat}{xs:List Bool}(h:CBits w q o xs)(k:Nat):CBits w q (o+k) (xs.drop k):=by
 intro i hi
 rw [List.length_drop] at hi
 have:=h (k+i) (by omega)
 rw [<- Nat.add_assoc] at this
 rw [this,List.getD_eq_getElem?_getD,List.getD_eq_getElem?_getD,List.getElem?_drop]
end Go.Proofs.YtgccjgpdjkhpdaaGreat.B
