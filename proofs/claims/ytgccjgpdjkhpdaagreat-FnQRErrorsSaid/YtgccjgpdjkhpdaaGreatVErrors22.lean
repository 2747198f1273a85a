import Derived.Test.YtgccjgpdjkhpdaaGreatVErrors19
open Go.Proofs.YtgccjgpdjkhpdaaGreatW.PrintWords.Aside0 renaming mk→Mw
open Nat renaming lt_of_lt_of_le→Mx,le_trans→My,pow_le_pow_right→Mz,add_zero→MA,mod_lt→MB,two_pow_add_eq_or_of_lt→MC,lt_of_le_of_lt→MD,and_le_left→ME,two_pow_pos→MF
/-! Own texts of this claim, part 22. -/
namespace Go.Proofs.YtgccjgpdjkhpdaaGreat.B
open Go.RowKit Go.Proofs.YtgccjgpdjkhpdaaGreatW.PrintWords Go.Proofs.YtgccjgpdjkhpdaaGreatW.PrintLast Go.Proofs.YtgccjgpdjkhpdaaGreatW.PrintMore
set_option linter.unusedVariables false
set_option linter.unusedSimpArgs false
def bG (l:List Bool):Nat:=l.foldl (fun a b=>2*a+b.toNat) 0
theorem FA (l:List Bool):∀ a,l.foldl (fun a b=>2*a+b.toNat) a=a*2 ^ l.length+bG l:=by
 induction l with
 | nil=>intro a;simp [bG]
 | cons b l ih=>
  intro a;unfold bG;rw [List.foldl_cons,List.foldl_cons,ih,ih,List.length_cons,Nat.pow_succ,Nat.add_mul,Nat.add_mul,Nat.mul_zero,Nat.zero_mul,Nat.zero_add,<- Nat.add_assoc,Nat.mul_assoc,Nat.mul_left_comm,Nat.mul_comm (2 ^ l.length) 2]
theorem rb (k l:List Bool):bG (k++l)=bG k*2 ^ l.length+bG l:=by
 unfold bG;rw [List.foldl_append];exact FA l _
theorem rc (l:List Bool):bG l<2 ^ l.length:=by
 induction l with
 | nil=>decide
 | cons b l ih=>
  rw [show b :: l=[b]++l from rfl,rb,List.length_append,Nat.pow_add,show bG [b]=b.toNat from by simp [bG]];have:b.toNat<=1:=Bool.toNat_le b;have h2:b.toNat*2 ^ l.length<=1*2 ^ l.length:=Nat.mul_le_mul_right _ this;rw [show (2:Nat) ^ [b].length=2 from rfl,Nat.two_mul];omega
def jb (x:Nat):List Bool:=(List.range 8).map fun i=>x.testBit (7-i)
theorem rf (x:Nat):(jb x).length=8:=by simp [jb]
theorem FB:∀ x:Fin 256,∀ o:Fin 9,∀ t:Fin 9,o.val+t.val<=8->bG (((jb x.val).drop o.val).take t.val)=x.val/2 ^ (8-o.val-t.val)%2 ^ t.val:=by decide +kernel
theorem FC (x o t:Nat)(hx:x<256)(h:o+t<=8):bG (((jb x).drop o).take t)=x/2 ^ (8-o-t)%2 ^ t:=FB ⟨x,hx⟩ ⟨o,by omega⟩ ⟨t,by omega⟩ h
def aZ (xs:List Nat):List Bool:=xs.flatMap jb
theorem mJ (xs:List Nat):(aZ xs).length=8*xs.length:=by
 unfold aZ
 induction xs with
 | nil=>rfl
 | cons x xs ih=>rw [List.flatMap_cons,List.length_append,ih,rf,List.length_cons];omega
theorem FD:∀ (xs:List Nat) (i:Nat),(aZ xs).drop (8*i)=aZ (xs.drop i):=by
 intro xs
 induction xs with
 | nil=>intro i;simp [aZ]
 | cons x xs ih=>
  intro i;cases i with
  | zero=>rfl
  | succ i=>
   have:aZ (x :: xs)=jb x++aZ xs:=by simp [aZ]
   rw [this,show 8*(i+1)=(jb x).length+8*i by rw [rf];omega,<- List.drop_drop,List.drop_left,ih]
   rfl
def seg (bs:List Bool)(s k:Nat):List Bool:=(bs.drop s).take k
theorem yF (bs:List Bool)(s k:Nat)(h:s+k<=bs.length):(seg bs s k).length=k:=by unfold seg;simp;omega
theorem yG (bs:List Bool)(s a b:Nat):seg bs s (a+b)=seg bs s a++seg bs (s+a) b:=by
 unfold seg;rw [List.take_add,List.drop_drop]
theorem yH (xs:List Nat)(i o t:Nat)(hi:i<xs.length)(h:o+t<=8):seg (aZ xs) (8*i+o) t=((jb (xs.getD i 0)).drop o).take t:=by
 unfold seg;rw [<- List.drop_drop,FD,List.drop_eq_getElem_cons hi];have:aZ (xs[i] :: xs.drop (i+1))=jb xs[i]++aZ (xs.drop (i+1)):=by unfold aZ;rw [List.flatMap_cons]
 rw [this,List.drop_append_of_le_length (by rw [rf];omega),List.take_append_of_le_length (by rw [List.length_drop,rf];omega)]
 simp [List.getD,List.getElem?_eq_getElem hi]
def aq (xs:List Nat)(s k:Nat):Nat:=bG (seg (aZ xs) s k)
theorem gy (xs:List Nat)(s k:Nat):aq xs s k<2 ^ k:=by
 refine Mx (rc _) (Mz (by decide) ?_);unfold seg;simp;omega
theorem rg (xs:List Nat)(s a b:Nat)(h:s+a+b<=8*xs.length):aq xs s (a+b)=aq xs s a*2 ^ b+aq xs (s+a) b:=by
 unfold aq;rw [yG,rb,yF _ _ _ (by rw [mJ];omega)]
theorem nC (xs:List Nat)(i o t:Nat)(hi:i<xs.length)(h:o+t<=8)(hx:xs.getD i 0<256):aq xs (8*i+o) t=xs.getD i 0/2 ^ (8-o-t)%2 ^ t:=by
 unfold aq;rw [yH xs i o t hi h,FC _ _ _ hx h]
theorem FE (xs:List Nat)(s:Nat):aq xs s 0=0:=by
 unfold aq seg;simp [bG]
def iI (w:World)(g:Nat):Nat:=match w.heap[g]? with
 | some (.cells cs _ _)=>cs.size
 | _=>0
theorem rh {w w':World}{g:Nat}(h:w'.heap[g]? = w.heap[g]?):iI w' g=iI w g:=by unfold iI;rw [h]
theorem FG {w:World}{g:Nat}{t:TypeId}{cs:Array Value}(h:Blk w g t cs):iI w g=cs.size:=by
 unfold iI;rw [show w.heap[g]? = some (.cells cs t (0,0)) from h]
structure eQ (w:World)(g:Nat)(xs:List Nat):Prop where
 blk:∃ cs,Blk w g 5 cs
 cell:∀ i,i<xs.length->w.cell? ⟨g,i,none⟩=some (.int .u8 ((xs.getD i 0:Nat):Int))
theorem aA.r {w:World}{g:Nat}{xs:List Nat}(h:aA w g xs):eQ w g xs:=⟨⟨_,h⟩,fun i hi=>h.cell i hi⟩
theorem aA.cap {w:World}{g:Nat}{xs:List Nat}(h:aA w g xs):iI w g=xs.length:=by rw [FG h];simp [ac,ak]
theorem eQ.move {w w':World}{g:Nat}{xs:List Nat}(h:eQ w g xs)(hb:w'.heap[g]? = w.heap[g]?):eQ w' g xs:=by
 obtain⟨⟨cs,h1⟩,h2⟩:=h;refine⟨⟨cs,hb.trans h1⟩,fun i hi=>?_⟩;rw [<- h2 i hi];unfold World.cell?;rw [hb]
theorem eQ.lt {w:World}{g:Nat}{xs:List Nat}(h:eQ w g xs):g<w.heap.size:=by obtain⟨⟨cs,h1⟩,_⟩:=h;exact h1.lt
theorem eQ.below {w w':World}{g B:Nat}{xs:List Nat}(h:eQ w g xs)(hb:Below B w w')(hg:g<B):eQ w' g xs:=h.move (hb.block g hg)
theorem eQ.turn {w w':World}{g s:Nat}{xs:List Nat}(h:eQ w g xs)(ht:af w w' s)(hne:g≠s):eQ w' g xs:=h.move (ht.block g hne)
theorem eQ.reads {w:World}{g:Nat}{xs:List Nat}(h:eQ w g xs)(hl:xs.length<=1000000):cA w .u8 (some ⟨g,0,none⟩) xs.length (ak xs):=by
 refine⟨ey _,by omega,fun _=>⟨_,rfl,fun j hj=>?_⟩⟩;have ha:(⟨g,0,none⟩:Addr).add j=⟨g,j,none⟩:=by unfold Addr.add;split<;>simp_all
 rw [ha,h.cell j hj];simp [ak,List.getD_eq_getElem?_getD,List.getElem?_map,List.getElem?_eq_getElem hj]
theorem nD {w w':World}{g s:Nat}(ht:af w w' s)(hne:g≠s):iI w' g=iI w g:=rh (ht.block g hne)
def ca (w:World)(s g:Nat)(xs:List Nat)(pos:Nat):Prop:=Blk w s 226 #[.slice (some ⟨g,0,none⟩) xs.length (iI w g),.int .i64 ((pos/8:Nat):Int),.int .i64 ((pos%8:Nat):Int)]/\eQ w g xs
theorem ca.move {w w':World}{s g:Nat}{xs:List Nat}{pos:Nat}(h:ca w s g xs pos)(hs:w'.heap[s]? = w.heap[s]?)(hg:w'.heap[g]? = w.heap[g]?):ca w' s g xs pos:=⟨by rw [rh hg];exact Eq.trans hs h.1,h.2.move hg⟩
theorem FH (w:World)(g:Nat)(n c:Nat):Calls Tryz.prog 105 #[.slice (some ⟨g,0,none⟩) n c] w fun e w'=>e=.returned (.pointer (some ⟨w.heap.size,0,none⟩))/\w'=w.alloc (.cells #[.slice (some ⟨g,0,none⟩) n c,.int .i64 0,.int .i64 0] 226):=by
 go_enter Tryz.func105,Tryz.ntmps105
 go_wp2
 go_ret
 exact⟨rfl,rfl⟩
theorem ri (w:World)(s g pos:Nat)(xs:List Nat)(h:ca w s g xs pos)(hp:pos<=8*xs.length)(hl:xs.length<=100000) :
  Calls Tryz.prog 106 #[.pointer (some ⟨s,0,none⟩)] w fun e w'=>e=.returned (.int .i64 ((8*xs.length-pos:Nat):Int))/\Drawn w w':=by
 obtain⟨h1,h2⟩:=h;obtain⟨n,hn⟩:∃ n,xs.length=n:=⟨_,rfl⟩;obtain⟨o,ho⟩:∃ o,pos%8=o:=⟨_,rfl⟩;obtain⟨q,hq⟩:∃ q,pos/8=q:=⟨_,rfl⟩;obtain⟨c,hcap⟩:∃ c,iI w g=c:=⟨_,rfl⟩;rw [hn,ho,hq,hcap] at h1;have c0:w.cell? ⟨s,0,none⟩=some (.slice (some ⟨g,0,none⟩) n c):=h1.cell 0;have c1:w.cell? ⟨s,1,none⟩=some (.int .i64 (q:Int)):=h1.cell 1;have c2:w.cell? ⟨s,2,none⟩=some (.int .i64 (o:Int)):=h1.cell 2;have hqn:q<=n:=by omega
 have e:8*((n:Int)-(q:Int))-(o:Int)=((8*xs.length-pos:Nat):Int):=by omega
 have hl2:n<=100000:=by omega
 have ho8:o<=7:=by omega
 obtain⟨r,hr⟩:∃ r:Nat,8*xs.length-pos=r:=⟨_,rfl⟩;rw [hr] at e ⊢;clear h1 h2 hn ho hq hr hp hl hcap
 go_enter Tryz.func106,Tryz.ntmps106
 go_wp2
 go_quiet (fail)
 go_wp2
 go_ret
 exact⟨by first | rfl | (rw [<- e];rfl),_,rfl⟩
theorem FI:∀ x:Fin 256,∀ b:Fin 8,∀ t:Fin 9,1<=t.val->t.val+b.val<=8->(x.val &&& (255/2 ^ (8-t.val)*2 ^ b.val%256))/2 ^ b.val=x.val/2 ^ b.val%2 ^ t.val:=by decide +kernel
theorem rj (x b t:Nat)(hx:x<256)(ht:1<=t)(h:t+b<=8):(x &&& (255/2 ^ (8-t)*2 ^ b%256))/2 ^ b=x/2 ^ b%2 ^ t:=FI ⟨x,hx⟩ ⟨b,by omega⟩ ⟨t,by omega⟩ ht h
theorem rk (a b:Nat)(ha:a<256)(hb:b<256):Go.bits .and .u8 (a:Int) (b:Int)=((a &&& b:Nat):Int) :=
 (bits_nat .u8 8 (by decide) (fun n h0 h1=>by rw [IntKind.wrap_u8];omega) a b ha hb).1
theorem af.drawn {w w':World}{s:Nat}(h:af w w' s)(n:Nat):af w (w'.drewN n) s:=⟨h.os,h.tape,h.output,h.size,h.block⟩
theorem Blk.drawn {w:World}{g:Nat}{t:TypeId}{cs:Array Value}(h:Blk w g t cs)(n:Nat):Blk (w.drewN n) g t cs:=h.below (au (Below.refl w.heap.size w) n) h.lt
theorem il {w:World}{s g:Nat}{xs:List Nat}{cs:Array Value}(h:Blk w s 226 cs)(hU:eQ w g xs):g≠s:=by obtain⟨cs,hc⟩:=hU.blk;exact bd hc h (by decide)
theorem mK {w:World}{s:Nat}{v a b:Value}(h:Blk w s 226 #[v,a,b])(u:Value):Blk (w.setCell ⟨s,2,none⟩ u) s 226 #[v,a,u]:=bK h 2 u
theorem rl {w:World}{s:Nat}{v a b:Value}(h:Blk w s 226 #[v,a,b])(u:Value):Blk (w.setCell ⟨s,1,none⟩ u) s 226 #[v,u,b]:=bK h 1 u
set_option maxHeartbeats 1000000 in
set_option maxRecDepth 8000 in
theorem kQ (w:World)(s g pos k:Nat)(xs:List Nat)(h:ca w s g xs pos)(hp:pos+k<=8*xs.length)(hl:xs.length<=100000)(hk:1<=k)(hk2:k<=32)(hx:ab 8 xs) :
  Calls Tryz.prog 107 #[.pointer (some ⟨s,0,none⟩),.int .i64 (k:Int)] w fun e w'=>e=.returned (.tuple #[.int .i64 (aq xs pos k:Int),.nilIface])/\ca w' s g xs (pos+k)/\af w w' s:=by
 have kl:=ri w s g pos xs h (by omega) hl;obtain⟨h1,h2⟩:=h;obtain⟨n,hn⟩:∃ n,xs.length=n:=⟨_,rfl⟩;obtain⟨o,ho⟩:∃ o,pos%8=o:=⟨_,rfl⟩;obtain⟨q,hq⟩:∃ q,pos/8=q:=⟨_,rfl⟩;obtain⟨c,hcap⟩:∃ c,iI w g=c:=⟨_,rfl⟩;rw [hn,ho,hq,hcap] at h1;obtain⟨r,hr⟩:∃ r:Nat,8*xs.length-pos=r:=⟨_,rfl⟩;rw [hr] at kl;have hkr:k<=r:=by omega
 have c0:w.cell? ⟨s,0,none⟩=some (.slice (some ⟨g,0,none⟩) n c):=h1.cell 0;have c1:w.cell? ⟨s,1,none⟩=some (.int .i64 (q:Int)):=h1.cell 1;have c2:w.cell? ⟨s,2,none⟩=some (.int .i64 (o:Int)):=h1.cell 2;have f1:w.frozen? ⟨s,1,none⟩=false:=h1.frozen 1;have f2:w.frozen? ⟨s,2,none⟩=false:=h1.frozen 2;have hl2:n<=100000:=by omega
 have ho8:o<=7:=by omega
 have HX:=Mw hx;have HS:=Mw h1;have HU:=Mw h2;have hpos:pos=8*q+o:=by omega
 have HPOS:=Mw hpos;have HN:=Mw hn;have HCAP:=Mw hcap;have hpk:8*q+o+k<=8*n:=by omega
 clear h1 h2 hn ho hq hr hp hl hx hpos hcap
 go_enter Tryz.func107,Tryz.ntmps107
 by_cases ho0:o=0
 ·subst ho0
  go_wp2_with (go_at_call 106;refine kl.mono ?_;rintro e w' ⟨rfl,m1,rfl⟩)
  clear c0 c1 c2 f1 f2 kl;have HSa:=Mw (show Blk (w.drewN m1) s 226 #[.slice (some ⟨g,0,none⟩) n c,.int .i64 (q:Int),.int .i64 0] from HS.out.drawn m1);have HTa:=Mw (show af w (w.drewN m1) s from (af.refl w s).drawn m1);have HTV:=Mw (show 0=aq xs pos 0 by rw [FE]);have HPA:=Mw (show 8*q+0+0=8*q by omega);obtain⟨wa,hwa⟩:∃ wa,wa=w.drewN m1:=⟨_,rfl⟩;rw [<- hwa] at HSa HTa ⊢;clear hwa
  go_loopw [1,6] (fun vk vr wr=>∃ j qj a R:Nat,vk=.int .i64 (j:Int)/\vr=.int .i64 (R:Int)/\j<=k/\a+j=k/\Aside0 (8*q+0+a=8*qj)/\Aside0 (R=aq xs pos a)/\Aside0 (Blk wr s 226 #[.slice (some ⟨g,0,none⟩) n c,.int .i64 (qj:Int),.int .i64 0])/\Aside0 (af w wr s)) (fun vk _ _=>(intOf vk).toNat)
  case atStart=>exact⟨k,q,0,0,rfl,rfl,Nat.le_refl _,by omega,HPA,HTV,HSa,HTa⟩
  case round=>
   clear HSa HTa;obtain⟨j,qj,a,R,rfl,rfl,hj,haj,HPJ,HRV,HSJ,HTJ⟩:=hrel;have e0:wr.cell? ⟨s,0,none⟩=some (.slice (some ⟨g,0,none⟩) n c):=HSJ.out.cell 0;have e1:wr.cell? ⟨s,1,none⟩=some (.int .i64 (qj:Int)):=HSJ.out.cell 1;have e2:wr.cell? ⟨s,2,none⟩=some (.int .i64 0):=HSJ.out.cell 2;have g1:wr.frozen? ⟨s,1,none⟩=false:=HSJ.out.frozen 1;have g2:wr.frozen? ⟨s,2,none⟩=false:=HSJ.out.frozen 2;have hqj:1<=j->qj<n:=by intro h;have:=HPJ.out;omega
   obtain⟨x,hx⟩:∃ x,xs.getD qj 0=x:=⟨_,rfl⟩;have hx8:x<256:=by rw [<- hx];exact aF HX.out qj
   have dx:1<=j->wr.cell? ⟨g,qj,none⟩=some (.int .u8 (x:Int)):=by
    intro h;have:=(HU.out.turn HTJ.out (il HS.out HU.out)).cell qj (by rw [HN.out];exact hqj h)
    rw [hx] at this;exact this
   have hR32:R<2 ^ a:=by rw [HRV.out];exact gy _ _ _
   have HXQ:=Mw hx;clear hx;by_cases hj8:8<=j
   ·have dx:=dx (by omega);have hqn:=hqj (by omega);have hR24:R<16777216:=Mx hR32 (My (Mz (by decide) (show a<=24 by omega)) (by decide));have ra:=qK x hx8;obtain⟨R2,hR2⟩:∃ R2,R*256+x=R2:=⟨_,rfl⟩;have hor:Go.bits .or .i64 ((R:Int)*256) (x:Int)=(R2:Int):=by
     have h1:=pA (R*256) x (by omega) (by omega);have h2:=MC (i:=8) (b:=x) hx8 R;rw [show ((R*256:Nat):Int)=(R:Int)*256 by omega] at h1;rw [h1,show R*256=2 ^ 8*R by omega,<- h2,<- hR2];congr 1;omega
    have HRN:=Mw (show R2=aq xs pos (a+8) by
     rw [rg xs pos a 8 (by rw [HPOS.out,HN.out];omega),HPOS.out,HPJ.out]
     have:=nC xs qj 0 8 (by rw [HN.out];exact hqn) (by omega) (by rw [HXQ.out];exact hx8)
     rw [MA,HXQ.out] at this;rw [this,<- hR2,HRV.out,HPOS.out,Nat.sub_zero,Nat.sub_self,Nat.pow_zero,Nat.div_one,Nat.mod_eq_of_lt hx8])
    have HSN:=fun m=>Mw (rl (HSJ.out.drawn m) (.int .i64 ((qj:Int)+1)))
    have HTN:=fun m=>Mw ((HTJ.out.drawn m).trans (af.set _ s 1 (.int .i64 ((qj:Int)+1))))
    clear hR32 hR2 hqj
    go_wp2
    go_quiet (fail)
    go_wp2
    go_roundw
    case rel=>exact⟨j-8,qj+1,a+8,R2,by go_num,rfl,by omega,by omega,⟨by have:=HPJ.out;omega⟩,HRN,⟨(HSN _).out⟩,⟨(HTN _).out⟩⟩
    case measure=>simp [intOf];omega
   by_cases hj0:j=0
   ·subst hj0;have HRE:=Mw (show R=aq xs pos k by rw [HRV.out,<- haj,MA]);clear dx hqj hR32
    go_wp2
    go_ret2
    refine⟨by rw [<- HRE.out];rfl,⟨?_,HU.out.turn HTJ.out (il HS.out HU.out)⟩,HTJ.out⟩
    have:=HPJ.out;rw [HN.out,(nD HTJ.out (il HS.out HU.out)).trans HCAP.out,HPOS.out,show (8*q+0+k)/8=qj by omega,show (8*q+0+k)%8=0 by omega];exact HSJ.out
   have dx:=dx (by omega);have hqn:=hqj (by omega);have hj7:j<=7:=by omega
   obtain⟨b2,hb2⟩:∃ b2,8-j=b2:=⟨_,rfl⟩;obtain⟨M2,hM2⟩:∃ M2:Nat,255/2 ^ b2*2 ^ b2%256=M2:=⟨_,rfl⟩;have hMi2:((255:Int)/2 ^ b2*2 ^ b2%256)=(M2:Int):=by rw [<- hM2];simp
   have hbi2:(8:Int)-(j:Int)=(b2:Int):=by omega
   go_wp2
   try rw [hb2]
   try rw [hMi2]
   try rw [hbi2]
   have hM28:M2<256:=by rw [<- hM2];exact MB _ (by decide)
   have ha2:=rk x M2 hx8 hM28;obtain⟨y2,hy2⟩:∃ y2,x &&& M2=y2:=⟨_,rfl⟩;have hy28:y2<256:=by rw [<- hy2];exact MD ME hx8
   rw [hy2] at ha2;obtain⟨T2,hT2⟩:∃ T2:Nat,y2/2 ^ b2=T2:=⟨_,rfl⟩;have hTi2:(y2:Int)/2 ^ b2=(T2:Int):=by rw [<- hT2];simp
   have hTm2:(y2:Int)/2 ^ min b2 8=(T2:Int):=by rw [Nat.min_eq_left (show b2<=8 by omega)];exact hTi2
   have hTv2:T2=x/2 ^ b2%2 ^ j:=by
    have:=rj x b2 j hx8 (by omega) (by omega);rw [hb2,hM2,hy2,hT2] at this;exact this
   have hT2j:T2<2 ^ j:=by rw [hTv2];exact MB _ (MF j)
   have hT28:T2<256:=Mx hT2j (My (Mz (by decide) (show j<=8 by omega)) (by decide));obtain⟨P,hP⟩:∃ P:Nat,R*2 ^ j=P:=⟨_,rfl⟩;have hPi:(R:Int)*2 ^ j=(P:Int):=by rw [<- hP];simp
   have hP32:P<4294967296:=by
    have h1:R*2 ^ j<2 ^ a*2 ^ j:=Nat.mul_lt_mul_of_pos_right hR32 (MF j);rw [<- Nat.pow_add,hP] at h1;exact Mx h1 (My (Mz (by decide) (show a+j<=32 by omega)) (by decide))
   obtain⟨V,hV⟩:∃ V,P+T2=V:=⟨_,rfl⟩;have hor2:Go.bits .or .i64 (P:Int) (T2:Int)=(V:Int):=by
    have h1:=pA P T2 (by omega) (by omega);have h2:=MC (i:=j) (b:=T2) hT2j R;rw [Nat.mul_comm,hP,hV] at h2;rw [h1,<- h2]
   have HVR:=Mw (show V=aq xs pos k by
    rw [<- haj,rg xs pos a j (by rw [HPOS.out,HN.out];omega),HPOS.out,HPJ.out]
    have:=nC xs qj 0 j (by rw [HN.out];exact hqn) (by omega) (by rw [HXQ.out];exact hx8)
    rw [MA,HXQ.out,Nat.sub_zero,hb2,<- hTv2] at this;rw [this,<- hV,<- hP,HRV.out,HPOS.out])
   clear hb2 hM2 hMi2 hbi2 hy2 hT2 hTv2 hT2j hP hV hR32 hqj
   go_quiet (fail)
   go_wp2
   go_ret2
   have hB:=mK (HSJ.out.drawn nq) (.int .i64 (j:Int));have hT:=(HTJ.out.drawn nq).trans (af.set _ s 2 (.int .i64 (j:Int)));refine⟨by rw [<- HVR.out];rfl,⟨?_,HU.out.turn hT (il HS.out HU.out)⟩,hT⟩
   have:=HPJ.out;rw [HN.out,(nD hT (il HS.out HU.out)).trans HCAP.out,HPOS.out,show (8*q+0+k)/8=qj by omega,show (8*q+0+k)%8=j by omega];exact hB
 obtain⟨x,hx⟩:∃ x,xs.getD q 0=x:=⟨_,rfl⟩;have hqn:q<n:=by omega
 have d0:w.cell? ⟨g,q,none⟩=some (.int .u8 (x:Int)):=by
  have:=HU.out.cell q (by rw [HN.out];exact hqn)
  rw [hx] at this;exact this
 have ho1:1<=o:=by omega
 by_cases hkl:k<8-o
 ·go_wp2_with (go_at_call 106;refine kl.mono ?_;rintro e w' ⟨rfl,m1,rfl⟩)
  obtain⟨b,hb⟩:∃ b,8-o-k=b:=⟨_,rfl⟩;obtain⟨M,hM⟩:∃ M:Nat,255/2 ^ (8-k)*2 ^ b%256=M:=⟨_,rfl⟩;have hMi:((255:Int)/2 ^ (8-k)*2 ^ b%256)=(M:Int):=by rw [<- hM];simp
  have hbi:(8:Int)-(o:Int)-(k:Int)=(b:Int):=by omega
  rw [hb,hMi,hbi];have hx8:x<256:=by rw [<- hx];exact aF HX.out q
  have hM8:M<256:=by rw [<- hM];exact MB _ (by decide)
  have ha:=rk x M hx8 hM8;obtain⟨y,hy⟩:∃ y,x &&& M=y:=⟨_,rfl⟩;have hy8:y<256:=by rw [<- hy];exact MD ME hx8
  rw [hy] at ha;obtain⟨T,hT⟩:∃ T:Nat,y/2 ^ b=T:=⟨_,rfl⟩;have hTi:(y:Int)/2 ^ b=(T:Int):=by rw [<- hT];simp
  have hTv:T=aq xs pos k:=by
   rw [HPOS.out,nC xs q o k (by rw [HN.out];exact hqn) (by omega) (by rw [hx];exact hx8),hx,<- hT,<- hy,<- hM,hb]
   exact rj x b k hx8 hk (by omega)
  have HTV:=Mw hTv;have hb7:b<=7:=by omega
  clear hb hM hMi hbi hx hy hT hTv
  go_quiet (fail)
  go_wp2
  go_ret2
  have hB:Blk ((w.drewN (m1+nq)).setCell ⟨s,2,none⟩ (.int .i64 ((o:Int)+(k:Int)))) s 226 #[.slice (some ⟨g,0,none⟩) n c,.int .i64 (q:Int),.int .i64 ((o:Int)+(k:Int))]:=mK (HS.out.drawn _) _;have hT:af w ((w.drewN (m1+nq)).setCell ⟨s,2,none⟩ (.int .i64 ((o:Int)+(k:Int)))) s:=((af.refl w s).drawn _).trans (af.set _ _ _ _);refine⟨by rw [<- HTV.out];rfl,⟨?_,HU.out.turn hT (il HS.out HU.out)⟩,hT⟩
  rw [HN.out,(nD hT (il HS.out HU.out)).trans HCAP.out,HPOS.out,show (8*q+o+k)/8=q by omega,show (8*q+o+k)%8=o+k by omega,show ((o+k:Nat):Int)=(o:Int)+(k:Int) by omega];exact hB
 go_wp2_with (go_at_call 106;refine kl.mono ?_;rintro e w' ⟨rfl,m1,rfl⟩)
 obtain⟨M,hM⟩:∃ M:Nat,255/2 ^ (8-(8-o))%256=M:=⟨_,rfl⟩;have hMi:((255:Int)/2 ^ (8-(8-o))%256)=(M:Int):=by rw [<- hM];simp
 rw [hMi];have hx8:x<256:=by rw [<- hx];exact aF HX.out q
 have hM8:M<256:=by rw [<- hM];exact MB _ (by decide)
 have ha:=rk x M hx8 hM8;obtain⟨T,hT⟩:∃ T,x &&& M=T:=⟨_,rfl⟩;have hT8:T<256:=by rw [<- hT];exact MD ME hx8
 rw [hT] at ha;obtain⟨ka,hka⟩:∃ ka,8-o=ka:=⟨_,rfl⟩;have hTv:T=aq xs pos ka:=by
  have:=rj x 0 (8-o) hx8 (by omega) (by omega);rw [Nat.pow_zero,Nat.mul_one,Nat.div_one,hM,hT] at this;rw [HPOS.out,nC xs q o ka (by rw [HN.out];exact hqn) (by omega) (by rw [hx];exact hx8),hx,this,hka,Nat.sub_self,Nat.pow_zero]
 have HTV:=Mw hTv;obtain⟨kr,hkr2⟩:∃ kr,k-ka=kr:=⟨_,rfl⟩;have hkri:(k:Int)-(8-(o:Int))=(kr:Int):=by omega
 have h8:(o:Int)+(8-(o:Int))=8:=by omega
 obtain⟨qa,hqa⟩:∃ qa,q+1=qa:=⟨_,rfl⟩;have HPA:=Mw (show 8*q+o+ka=8*qa by omega);clear hM hMi hx hT hTv;by_cases hkr0:kr=0
 ·subst hkr0
  go_quiet (fail)
  go_wp2
  go_ret2
  have hka2:ka=k:=by omega
  subst hka2;have hB:=rl (mK (mK (HS.out.drawn (m1+nq)) (.int .i64 8)) (.int .i64 0)) (.int .i64 ((q:Int)+1));have hT:=((((af.refl w s).drawn (m1+nq)).trans (af.set _ s 2 (.int .i64 8))).trans (af.set _ s 2 (.int .i64 0))).trans (af.set _ s 1 (.int .i64 ((q:Int)+1)));refine⟨by rw [<- HTV.out];rfl,⟨?_,HU.out.turn hT (il HS.out HU.out)⟩,hT⟩
  have:=HPA.out;rw [HN.out,(nD hT (il HS.out HU.out)).trans HCAP.out,HPOS.out,show (8*q+o+ka)/8=q+1 by omega,show (8*q+o+ka)%8=0 by omega];exact hB
 go_quiet (fail)
 go_wp2
 have HSa:=Mw (rl (mK (mK (HS.out.drawn (m1+nq)) (.int .i64 8)) (.int .i64 0)) (.int .i64 ((q:Int)+1)));have HTa:=Mw (((((af.refl w s).drawn (m1+nq)).trans (af.set _ s 2 (.int .i64 8))).trans (af.set _ s 2 (.int .i64 0))).trans (af.set _ s 1 (.int .i64 ((q:Int)+1))));clear c0 c1 c2 f1 f2 kl d0;rw [show ((q:Int)+1)=(qa:Int) by omega] at HSa HTa ⊢;obtain⟨wa,hwa⟩:∃ wa,wa=(((w.drewN (m1+nq)).setCell ⟨s,2,none⟩ (.int .i64 8)).setCell ⟨s,2,none⟩ (.int .i64 0)).setCell ⟨s,1,none⟩ (.int .i64 (qa:Int)):=⟨_,rfl⟩;rw [<- hwa] at HSa HTa ⊢;clear hwa
 go_loopw [1,6] (fun vk vr wr=>∃ j qj a R:Nat,vk=.int .i64 (j:Int)/\vr=.int .i64 (R:Int)/\j<=kr/\a+j=k/\Aside0 (8*q+o+a=8*qj)/\Aside0 (R=aq xs pos a)/\Aside0 (Blk wr s 226 #[.slice (some ⟨g,0,none⟩) n c,.int .i64 (qj:Int),.int .i64 0])/\Aside0 (af w wr s)) (fun vk _ _=>(intOf vk).toNat)
 case atStart=>exact⟨kr,qa,ka,T,rfl,rfl,Nat.le_refl _,by omega,HPA,HTV,HSa,HTa⟩
 case round=>
  clear HSa HTa;obtain⟨j,qj,a,R,rfl,rfl,hj,haj,HPJ,HRV,HSJ,HTJ⟩:=hrel;have e0:wr.cell? ⟨s,0,none⟩=some (.slice (some ⟨g,0,none⟩) n c):=HSJ.out.cell 0;have e1:wr.cell? ⟨s,1,none⟩=some (.int .i64 (qj:Int)):=HSJ.out.cell 1;have e2:wr.cell? ⟨s,2,none⟩=some (.int .i64 0):=HSJ.out.cell 2;have g1:wr.frozen? ⟨s,1,none⟩=false:=HSJ.out.frozen 1;have g2:wr.frozen? ⟨s,2,none⟩=false:=HSJ.out.frozen 2;have hqj:1<=j->qj<n:=by intro h;have:=HPJ.out;omega
  obtain⟨x,hx⟩:∃ x,xs.getD qj 0=x:=⟨_,rfl⟩;have hx8:x<256:=by rw [<- hx];exact aF HX.out qj
  have dx:1<=j->wr.cell? ⟨g,qj,none⟩=some (.int .u8 (x:Int)):=by
   intro h;have:=(HU.out.turn HTJ.out (il HS.out HU.out)).cell qj (by rw [HN.out];exact hqj h)
   rw [hx] at this;exact this
  have hR32:R<2 ^ a:=by rw [HRV.out];exact gy _ _ _
  have HXQ:=Mw hx;clear hx;by_cases hj8:8<=j
  ·have dx:=dx (by omega);have hqn:=hqj (by omega);have hR24:R<16777216:=Mx hR32 (My (Mz (by decide) (show a<=24 by omega)) (by decide));have ra:=qK x hx8;obtain⟨R2,hR2⟩:∃ R2,R*256+x=R2:=⟨_,rfl⟩;have hor:Go.bits .or .i64 ((R:Int)*256) (x:Int)=(R2:Int):=by
    have h1:=pA (R*256) x (by omega) (by omega);have h2:=MC (i:=8) (b:=x) hx8 R;rw [show ((R*256:Nat):Int)=(R:Int)*256 by omega] at h1;rw [h1,show R*256=2 ^ 8*R by omega,<- h2,<- hR2];congr 1;omega
   have HRN:=Mw (show R2=aq xs pos (a+8) by
    rw [rg xs pos a 8 (by rw [HPOS.out,HN.out];omega),HPOS.out,HPJ.out]
    have:=nC xs qj 0 8 (by rw [HN.out];exact hqn) (by omega) (by rw [HXQ.out];exact hx8)
    rw [MA,HXQ.out] at this;rw [this,<- hR2,HRV.out,HPOS.out,Nat.sub_zero,Nat.sub_self,Nat.pow_zero,Nat.div_one,Nat.mod_eq_of_lt hx8])
   have HSN:=fun m=>Mw (rl (HSJ.out.drawn m) (.int .i64 ((qj:Int)+1)))
   have HTN:=fun m=>Mw ((HTJ.out.drawn m).trans (af.set _ s 1 (.int .i64 ((qj:Int)+1))))
   clear hR32 hR2 hqj
   go_wp2
   go_quiet (fail)
   go_wp2
   go_roundw
   case rel=>exact⟨j-8,qj+1,a+8,R2,by go_num,rfl,by omega,by omega,⟨by have:=HPJ.out;omega⟩,HRN,⟨(HSN _).out⟩,⟨(HTN _).out⟩⟩
   case measure=>simp [intOf];omega
  by_cases hj0:j=0
  ·subst hj0;have HRE:=Mw (show R=aq xs pos k by rw [HRV.out,<- haj,MA]);clear dx hqj hR32
   go_wp2
   go_ret2
   refine⟨by rw [<- HRE.out];rfl,⟨?_,HU.out.turn HTJ.out (il HS.out HU.out)⟩,HTJ.out⟩
   have:=HPJ.out;rw [HN.out,(nD HTJ.out (il HS.out HU.out)).trans HCAP.out,HPOS.out,show (8*q+o+k)/8=qj by omega,show (8*q+o+k)%8=0 by omega];exact HSJ.out
  have dx:=dx (by omega);have hqn:=hqj (by omega);have hj7:j<=7:=by omega
  obtain⟨b2,hb2⟩:∃ b2,8-j=b2:=⟨_,rfl⟩;obtain⟨M2,hM2⟩:∃ M2:Nat,255/2 ^ b2*2 ^ b2%256=M2:=⟨_,rfl⟩;have hMi2:((255:Int)/2 ^ b2*2 ^ b2%256)=(M2:Int):=by rw [<- hM2];simp
  have hbi2:(8:Int)-(j:Int)=(b2:Int):=by omega
  go_wp2
  try rw [hb2]
  try rw [hMi2]
  try rw [hbi2]
  have hM28:M2<256:=by rw [<- hM2];exact MB _ (by decide)
  have ha2:=rk x M2 hx8 hM28;obtain⟨y2,hy2⟩:∃ y2,x &&& M2=y2:=⟨_,rfl⟩;have hy28:y2<256:=by rw [<- hy2];exact MD ME hx8
  rw [hy2] at ha2;obtain⟨T2,hT2⟩:∃ T2:Nat,y2/2 ^ b2=T2:=⟨_,rfl⟩;have hTi2:(y2:Int)/2 ^ b2=(T2:Int):=by rw [<- hT2];simp
  have hTm2:(y2:Int)/2 ^ min b2 8=(T2:Int):=by rw [Nat.min_eq_left (show b2<=8 by omega)];exact hTi2
  have hTv2:T2=x/2 ^ b2%2 ^ j:=by
   have:=rj x b2 j hx8 (by omega) (by omega);rw [hb2,hM2,hy2,hT2] at this;exact this
  have hT2j:T2<2 ^ j:=by rw [hTv2];exact MB _ (MF j)
  have hT28:T2<256:=Mx hT2j (My (Mz (by decide) (show j<=8 by omega)) (by decide));obtain⟨P,hP⟩:∃ P:Nat,R*2 ^ j=P:=⟨_,rfl⟩;have hPi:(R:Int)*2 ^ j=(P:Int):=by rw [<- hP];simp
  have hP32:P<4294967296:=by
   have h1:R*2 ^ j<2 ^ a*2 ^ j:=Nat.mul_lt_mul_of_pos_right hR32 (MF j);rw [<- Nat.pow_add,hP] at h1;exact Mx h1 (My (Mz (by decide) (show a+j<=32 by omega)) (by decide))
  obtain⟨V,hV⟩:∃ V,P+T2=V:=⟨_,rfl⟩;have hor2:Go.bits .or .i64 (P:Int) (T2:Int)=(V:Int):=by
   have h1:=pA P T2 (by omega) (by omega);have h2:=MC (i:=j) (b:=T2) hT2j R;rw [Nat.mul_comm,hP,hV] at h2;rw [h1,<- h2]
  have HVR:=Mw (show V=aq xs pos k by
   rw [<- haj,rg xs pos a j (by rw [HPOS.out,HN.out];omega),HPOS.out,HPJ.out]
   have:=nC xs qj 0 j (by rw [HN.out];exact hqn) (by omega) (by rw [HXQ.out];exact hx8)
   rw [MA,HXQ.out,Nat.sub_zero,hb2,<- hTv2] at this;rw [this,<- hV,<- hP,HRV.out,HPOS.out])
  clear hb2 hM2 hMi2 hbi2 hy2 hT2 hTv2 hT2j hP hV hR32 hqj
  go_quiet (fail)
  go_wp2
  go_ret2
  have hB:=mK (HSJ.out.drawn nq) (.int .i64 (j:Int));have hT:=(HTJ.out.drawn nq).trans (af.set _ s 2 (.int .i64 (j:Int)));refine⟨by rw [<- HVR.out];rfl,⟨?_,HU.out.turn hT (il HS.out HU.out)⟩,hT⟩
  have:=HPJ.out;rw [HN.out,(nD hT (il HS.out HU.out)).trans HCAP.out,HPOS.out,show (8*q+o+k)/8=qj by omega,show (8*q+o+k)%8=j by omega];exact hB
set_option maxRecDepth 8000 in
theorem lS (w:World)(s g pos k:Nat)(xs:List Nat)(h:ca w s g xs pos)(hp:pos<=8*xs.length)(hs:8*xs.length<pos+k)(hl:xs.length<=100000)(hk:1<=k)(hk2:k<=32) :
  Calls Tryz.prog 107 #[.pointer (some ⟨s,0,none⟩),.int .i64 (k:Int)] w fun e w'=>(∃ x,e=.returned (.tuple #[.int .i64 0,.iface 216 x]))/\Below w.heap.size w w':=by
 have kl:=ri w s g pos xs h hp hl;obtain⟨r,hr⟩:∃ r:Nat,8*xs.length-pos=r:=⟨_,rfl⟩;rw [hr] at kl;have hrk:r<k:=by omega
 clear h hp hs hl hr
 go_enter Tryz.func107,Tryz.ntmps107
 go_wp2_with (first | (go_at_call 106;refine kl.mono ?_;rintro e w' ⟨rfl,m1,rfl⟩) | (go_at_call 103;refine (Lr _ _).mono ?_;rintro e w' ⟨rfl,rfl⟩))
 go_ret2
 exact⟨⟨_,rfl⟩,ai (au (Below.refl w.heap.size w) m1) _⟩
theorem FJ (w:World)(n:Nat)(h:n=0\/n=1\/n=2\/n=3\/n=4\/n=5\/n=7\/n=8\/n=9):Calls Tryz.prog 108 #[.int .i64 (n:Int)] w fun e w'=>e=.returned (.tuple #[.int .i64 (n:Int),.nilIface])/\w'=w:=by
 rcases h with rfl | rfl | rfl | rfl | rfl | rfl | rfl | rfl | rfl
 all_goals
  go_enter Tryz.func108,Tryz.ntmps108
  go_wp2
  go_ret2
  exact⟨rfl,rfl⟩
theorem ca.grown {w w1:World}{s g pos base n:Nat}{bs:List Nat}{v:Value}{hs:List Value}(h:ca w s g bs pos)(hown:w.ownsRow base 5 1 v n hs)(hg:g<base)(hgr:w.grownBy w1 v.ownBlock):ca w1 s g bs pos :=
 h.move (hgr.block s h.1.lt (own_ne hown h.1 (by decide))) (hgr.block g h.2.lt (fun hc=>by have:=cF hown g hc.symm;omega))
theorem ca.alloc {w:World}{s g pos:Nat}{bs:List Nat}(h:ca w s g bs pos)(o:Obj):ca (w.alloc o) s g bs pos:=h.move (Below.heap_alloc w o s h.1.lt) (Below.heap_alloc w o g h.2.lt)
theorem gW {w w':World}{s base n:Nat}{v:Value}{hs:List Value}{cs:Array Value}(hown:w.ownsRow base 5 1 v n hs)(h:Blk w s 226 cs)(ht:af w w' s):w'.ownsRow base 5 1 v n hs :=
 ei hown fun k hk=>ht.block k (by rintro rfl;exact own_ne hown h (by decide) hk.symm)
structure cT (w w':World)(s:Nat)(v v':Value):Prop where
 os:w'.os=w.os
 tape:w'.tape=w.tape
 output:w'.output=w.output
 size:w.heap.size<=w'.heap.size
 block:∀ k,k<w.heap.size->k≠s->some k≠v.ownBlock->w'.heap[k]? = w.heap[k]?
 at_:v'.ownBlock=v.ownBlock\/∃ b,v'.ownBlock=some b/\w.heap.size<=b
theorem cT.refl (w:World)(s:Nat)(v:Value):cT w w s v v:=⟨rfl,rfl,rfl,Nat.le_refl _,fun _ _ _ _=>rfl,.inl rfl⟩
theorem cT.turn {w x y:World}{s:Nat}{v v':Value}(h:cT w x s v v')(k:af x y s):cT w y s v v' :=
 ⟨k.os.trans h.os,k.tape.trans h.tape,k.output.trans h.output,by rw [k.size];exact h.size,fun i hi h1 h2=>(k.block i h1).trans (h.block i hi h1 h2),h.at_⟩
theorem cT.alloc {w x:World}{s:Nat}{v v':Value}(h:cT w x s v v')(o:Obj):cT w (x.alloc o) s v v' :=
 ⟨h.os,h.tape,h.output,by simp;exact Nat.le_succ_of_le h.size,fun i hi h1 h2=>(Below.heap_alloc x o i (Mx hi h.size)).trans (h.block i hi h1 h2),h.at_⟩
theorem cT.app {w x y:World}{s:Nat}{v v' v2:Value}(h:cT w x s v v')(k:x.grownBy y v'.ownBlock)(hat:v2.ownBlock=v'.ownBlock\/∃ b,v2.ownBlock=some b/\x.heap.size<=b):cT w y s v v2:=by
 have hs:=h.size;refine⟨k.os.trans h.os,k.tape.trans h.tape,k.output.trans h.output,My hs k.size,fun i hi h1 h2=>?_,?_⟩;rotate_left
 ·rcases hat with e | ⟨b,e,hb⟩
  ·rw [e];exact h.at_
  exact .inr ⟨b,e,by omega⟩
 refine (k.block i (by omega) ?_).trans (h.block i hi h1 h2);rcases h.at_ with e | ⟨b,e,hb⟩
 ·rw [e];exact h2
 rw [e];intro hc;injection hc with hc;omega
theorem cT.trans {w x y:World}{s:Nat}{v v' v2:Value}(h:cT w x s v v')(k:cT x y s v' v2):cT w y s v v2:=by
 have hs:=h.size;refine⟨k.os.trans h.os,k.tape.trans h.tape,k.output.trans h.output,My hs k.size,fun i hi h1 h2=>?_,?_⟩;rotate_left
 ·rcases k.at_ with e | ⟨b,e,hb⟩
  ·rw [e];exact h.at_
  exact .inr ⟨b,e,by omega⟩
 refine (k.block i (by omega) h1 ?_).trans (h.block i hi h1 h2);rcases h.at_ with e | ⟨b,e,hb⟩
 ·rw [e];exact h2
 rw [e];intro hc;injection hc with hc;omega
theorem cT.blk {w w':World}{s q:Nat}{v v':Value}{t:TypeId}{cs:Array Value}(h:cT w w' s v v')(hq:Blk w q t cs)(h1:q≠s)(h2:some q≠v.ownBlock):Blk w' q t cs/\some q≠v'.ownBlock:=by
 refine⟨(h.block q hq.lt h1 h2).trans hq,?_⟩;rcases h.at_ with e | ⟨b,e,hb⟩
 ·rw [e];exact h2
 rw [e];intro hc;injection hc with hc;have:=hq.lt;omega
def kR:List Nat:=[48,49,50,51,52,53,54,55,56,57,65,66,67,68,69,70,71,72,73,74,75,76,77,78,79,80,81,82,83,84,85,86,87,88,89,90,32,36,37,42,43,45,46,47,58]
def fQ (n:Nat):Int:=(kR.getD n 0:Nat)
def eF (bs:List Nat)(pos cnt:Nat)(acc:List Int):Option (List Int×Nat) :=
 if 3<=cnt then
  if pos+10<=8*bs.length/\aq bs pos 10<1000 then eF bs (pos+10) (cnt-3) (acc++[48+((aq bs pos 10/100:Nat):Int)]++[48+((aq bs pos 10/10%10:Nat):Int)]++[48+((aq bs pos 10%10:Nat):Int)])
  else none
 else if cnt=2 then
  if pos+7<=8*bs.length/\aq bs pos 7<100 then some (acc++[48+((aq bs pos 7/10:Nat):Int)]++[48+((aq bs pos 7%10:Nat):Int)],pos+7) else none
 else if cnt=1 then
  if pos+4<=8*bs.length/\aq bs pos 4<10 then some (acc++[48+((aq bs pos 4:Nat):Int)],pos+4) else none
 else some (acc,pos)
termination_by cnt
def dy (bs:List Nat)(pos cnt:Nat)(acc:List Int):Option (List Int×Nat) :=
 if 2<=cnt then
  if pos+11<=8*bs.length/\aq bs pos 11/45<45 then dy bs (pos+11) (cnt-2) (acc++[fQ (aq bs pos 11/45)]++[fQ (aq bs pos 11%45)])
  else none
 else if cnt=1 then
  if pos+6<=8*bs.length/\aq bs pos 6<45 then some (acc++[fQ (aq bs pos 6)],pos+6) else none
 else some (acc,pos)
termination_by cnt
def dV (bs:List Nat)(pos cnt:Nat):List Int:=(List.range cnt).map fun i=>(aq bs (pos+8*i) 8:Int)
def bj:List Int->List Int
 | []=>[]
 | [x]=>[if x=37 then 29 else x]
 | x :: y :: l=>if x=37 then (if y=37 then 37 :: bj l else 29 :: bj (y :: l)) else x :: bj (y :: l)
def aw (mode v:Nat):Nat :=
 if mode=1 then (if v<=9 then 10 else if v<=26 then 12 else 14)
 else if mode=2 then (if v<=9 then 9 else if v<=26 then 11 else 13)
 else (if v<=9 then 8 else 16)
structure PS where
 pos:Nat
 out:List Int
 segs:List (List Int)
 fc:Bool
 sq:Int
 par:Int
def kS (fc:Bool)(out ys:List Int):List Int:=if fc then out++bj (ys.drop out.length) else ys
inductive Rd (bs:List Nat)(v:Nat):PS->Option PS->Prop
 | done (st:PS):st.pos<=8*bs.length->8*bs.length<st.pos+4->Rd bs v st (some st)
 | stop (st:PS):st.pos+4<=8*bs.length->aq bs st.pos 4=0->Rd bs v st (some { st with pos:=st.pos+4 })
 | fnc (st:PS) (R:Option PS):st.pos+4<=8*bs.length->aq bs st.pos 4=5->Rd bs v { st with pos:=st.pos+4,fc:=true } R->Rd bs v st R
 | part (st:PS) (R:Option PS):st.pos+20<=8*bs.length->aq bs st.pos 4=3->Rd bs v { st with pos:=st.pos+20,sq:=aq bs (st.pos+4) 8,par:=aq bs (st.pos+12) 8 } R->Rd bs v st R
 | short (st:PS) (m:Nat):st.pos+4<=8*bs.length->aq bs st.pos 4=m->m=1\/m=2\/m=4->8*bs.length<st.pos+4+aw m v->Rd bs v st none
 | num (st:PS) (ys:List Int) (p:Nat) (R:Option PS):aq bs st.pos 4=1->st.pos+4+aw 1 v<=8*bs.length->
   eF bs (st.pos+4+aw 1 v) (aq bs (st.pos+4) (aw 1 v)) st.out=some (ys,p)->Rd bs v { st with pos:=p,out:=ys } R->Rd bs v st R
 | numBad (st:PS):aq bs st.pos 4=1->st.pos+4+aw 1 v<=8*bs.length->eF bs (st.pos+4+aw 1 v) (aq bs (st.pos+4) (aw 1 v)) st.out=none->Rd bs v st none
 | al (st:PS) (ys:List Int) (p:Nat) (R:Option PS):aq bs st.pos 4=2->st.pos+4+aw 2 v<=8*bs.length->
   dy bs (st.pos+4+aw 2 v) (aq bs (st.pos+4) (aw 2 v)) st.out=some (ys,p)->Rd bs v { st with pos:=p,out:=kS st.fc st.out ys } R->Rd bs v st R
 | alBad (st:PS):aq bs st.pos 4=2->st.pos+4+aw 2 v<=8*bs.length->dy bs (st.pos+4+aw 2 v) (aq bs (st.pos+4) (aw 2 v)) st.out=none->Rd bs v st none
 | byte (st:PS) (n:Nat) (R:Option PS):aq bs st.pos 4=4->st.pos+4+aw 4 v<=8*bs.length->aq bs (st.pos+4) (aw 4 v)=n->st.pos+4+aw 4 v+8*n<=8*bs.length->
   Rd bs v { st with pos:=st.pos+4+aw 4 v+8*n,out:=st.out++dV bs (st.pos+4+aw 4 v) n,segs:=st.segs++[dV bs (st.pos+4+aw 4 v) n] } R->Rd bs v st R
 | byteBad (st:PS) (n:Nat):aq bs st.pos 4=4->st.pos+4+aw 4 v<=8*bs.length->aq bs (st.pos+4) (aw 4 v)=n->8*bs.length<st.pos+4+aw 4 v+8*n->Rd bs v st none
end Go.Proofs.YtgccjgpdjkhpdaaGreat.B
