import Derived.Deep.RegionWith
import Derived.Test.YtgccjgpdjkhpdaaGreatVQ6
import Derived.Test.YtgccjgpdjkhpdaaGreatVQ8
import Derived.Test.YtgccjgpdjkhpdaaGreatVQ9
import Derived.Test.YtgccjgpdjkhpdaaGreatVQ11
/-! Own texts of this claim, part 10. -/
namespace Go.Proofs.YtgccjgpdjkhpdaaGreat.B
open Go.RowKit Go.Proofs.YtgccjgpdjkhpdaaGreatW.PrintWords Go.Proofs.YtgccjgpdjkhpdaaGreatW.PrintLast Go.Proofs.YtgccjgpdjkhpdaaGreatW.PrintMore
set_option linter.unusedVariables false
set_option linter.unusedSimpArgs false
theorem ints_at {w:World}{k:IntKind}{A:Option Addr}{xs:List Int}{n:Nat}(h:Kd.C (Kd.int k) w A n xs)(x:Nat)(hx:x<n):∃ ax,A=some ax/\w.cell? (ax.add x)=some (.int k (xs.getD x 0)):=by
 obtain⟨ad,c,hA,hl,hc,hg⟩:=Kd.C_get h 0 (x:Int) (by omega) (by omega)
 rw [Int.toNat_natCast] at hc hg
 refine⟨ad,hA,?_⟩
 have:=hg 0 (.int k (xs.getD x 0)) (by rw [show c=[.int k (xs.getD x 0)] from hc];rfl)
 rw [show x*(Kd.int k).sz+0=x by show x*1+0=x;omega] at this
 exact this
theorem verNum_ok (w:World)(n:Nat)(h:1<=n/\n<=40) :
  Calls Tryz.prog 60 #[.int .i64 (n:Int)] w fun e w'=>∃ p,e=.returned (.tuple #[.pointer (some ⟨p,0,none⟩),.nilIface])/\w.heap.size<=p/\VerAt w' p (n:Int) (verRow n)/\Below w.heap.size w w':=by
 have k:=versionOf_any w n h
 obtain⟨h1,h2⟩:=h
 go_enter Tryz.func60,Tryz.ntmps60
 go_wp2_with (go_at_call 104;refine k.mono ?_;rintro e w' ⟨p,rfl,hp,hv,hb⟩)
 have HV:=Aside0.mk hv
 clear hv
 go_ret2
 exact⟨p,rfl,hp,HV.out,hb⟩
def verTabI:List Int:=verTabN.map fun (n:Nat)=>(n:Int)
theorem verTabI_eq:F.decoder_VERSION_DECODE_INFO.f=some verTabI:=by decide +kernel
theorem vdi_call (w:World):Calls Tryz.prog 127 #[] w fun e w'=>∃ ad c,e=.returned (.slice (some ad) 34 c)/\34<=c/\(∀ i,i<34->w'.cell? (ad.add i)=some (.int .i64 ((verTabN.getD i 0:Nat):Int)))/\ad.block<w'.heap.size/\Below w.heap.size w w':=by
 refine (F.decoder_VERSION_DECODE_INFO.calls verTabI w verTabI_eq).mono ?_
 rintro e w' ⟨v,rfl,hR,hB⟩
 obtain⟨A,c,rfl,hc,hC⟩:=Kd.R_reads hR
 have hC:Kd.C (Kd.int .i64) w' A 34 verTabI:=hC
 obtain⟨ax,rfl,h0⟩:=ints_at hC 0 (by omega)
 refine⟨ax,c,rfl,hc,?_,?_,hB⟩
 ·intro i hi
  obtain⟨ay,e,h⟩:=ints_at hC i hi
  obtain rfl:ax=ay:=Option.some.inj e
  have e2:verTabI.getD i 0=((verTabN.getD i 0:Nat):Int):=by
   unfold verTabI
   rw [List.getD_eq_getElem?_getD,List.getD_eq_getElem?_getD,List.getElem?_map]
   cases verTabN[i]?<;>rfl
  rw [e2] at h
  exact h
 ·have:=World.block_lt_of_cell? w' _ h0
  have e0:ax.add 0=ax:=by unfold Addr.add;simp
  rw [e0] at this
  exact this
theorem verTab_lim:∀ i:Fin 34,verTabN.getD i.val 0<262144:=by decide
def SomeVer (w:World)(n:Nat)(e:Ending)(w':World):Prop:=∃ p,e=.returned (.tuple #[.pointer (some ⟨p,0,none⟩),.nilIface])/\w.heap.size<=p/\VerAt w' p (n:Int) (verRow n)/\Below w.heap.size w w'
def bvOf (best idx bv:Nat):Prop:=best<=3->bv=idx+7
def goesOn (a k i best idx:Nat):Prop:=verGo a (verTabN.drop i) i (best,idx)=some k
theorem goesOn_step {a k i best idx:Nat}(hi:i<34)(h:goesOn a k i best idx):(verTabN.getD i 0=a/\i=k)\/(verTabN.getD i 0≠a/\goesOn a k (i+1) (nearStep a (verTabN.getD i 0) i (best,idx)).1 (nearStep a (verTabN.getD i 0) i (best,idx)).2):=by
 have hl:i<verTabN.length:=hi
 have hd:verTabN.drop i=verTabN.getD i 0 :: verTabN.drop (i+1):=by
  rw [List.drop_eq_getElem_cons hl,List.getD_eq_getElem?_getD,List.getElem?_eq_getElem hl]
  rfl
 unfold goesOn at h ⊢
 rw [hd,verGo] at h
 split at h
 ·exact .inl ⟨‹_›,Option.some.inj h⟩
 ·exact .inr ⟨‹_›,h⟩
set_option maxHeartbeats 1000000 in
theorem decVer (w:World)(a k:Nat)(hk:k<34)(ha:a<262144)(hd:hd a (verTabN.getD k 0)<=3) :
  Calls Tryz.prog 85 #[.int .i64 (a:Int)] w (SomeVer w (k+7)):=by
 have H0:=Aside0.mk (show goesOn a k 0 2147483647 0 from ver_found k a hk hd)
 clear hd
 go_enter Tryz.func85,Tryz.ntmps85
 go_wp2_with (go_at_call 127;refine (vdi_call _).mono ?_;rintro e w' ⟨ad,c,rfl,hc,hcell,hlt,hb⟩)
 have HC:=Aside0.mk hcell
 have HB:=Aside0.mk hb
 obtain⟨w1,rfl⟩:∃ w1:World,w1=w':=⟨_,rfl⟩
 clear hcell hb
 go_loopw [4,5,11] (fun vb vv vi wr=>∃ i best idx bv:Nat,i<=34/\vb=.int .i64 (best:Int)/\vv=.int .i64 (bv:Int)/\vi=.int .i64 (i:Int)/\best<=2147483647/\Aside0 (bvOf best idx bv)/\Aside0 (goesOn a k i best idx)/\bv<=100/\Aside0 (Below w1.heap.size w1 wr)) (fun _ _ vi _=>(34-intOf vi).toNat)
 case atStart=>exact⟨0,2147483647,0,0,by omega,rfl,rfl,rfl,by omega,⟨fun h=>by omega⟩,H0,by omega,⟨Below.refl _ _⟩⟩
 case round=>
  obtain⟨i,best,idx,bv,hi,rfl,rfl,rfl,hbest,HBV,HG,hbv,HBr⟩:=hrel
  by_cases hlt34:i<34
  ·have c0:wr.cell? (ad.add i)=some (.int .i64 ((verTabN.getD i 0:Nat):Int)):=by
    have:=HC.out i hlt34
    exact pw_cell_below HBr.out this
   obtain⟨t,ht⟩:∃ t,verTabN.getD i 0=t:=⟨_,rfl⟩
   have hlim:t<262144:=by rw [<- ht];exact verTab_lim ⟨i,hlt34⟩
   have hst:=goesOn_step hlt34 HG.out
   rw [ht] at c0 hst
   clear ht
   rcases hst with⟨e1,e2⟩ | ⟨e1,e2⟩
   ·subst e1
    have HE:=Aside0.mk e2
    clear e2
    go_wp2_with (go_at_call 60;refine (verNum_ok _ (i+7) (by omega)).mono ?_;rintro e w' ⟨p,rfl,hp,hv,hb⟩)
    have HV:=Aside0.mk hv
    clear hv
    go_ret2
    have hik:=HE.out
    subst hik
    refine⟨p,rfl,?_,HV.out,?_⟩
    ·have:=HB.out.size;have:=HBr.out.size;omega
    ·exact HB.out.trans ((HBr.out.mono HB.out.size).trans (hb.mono (Nat.le_trans HB.out.size HBr.out.size)))
   ·have ht2:((t:Int)==(a:Int))=false:=by simpa using (fun h:(t:Int)=(a:Int)=>e1 (by omega))
    have HE:=Aside0.mk e2
    have hdl:hd a t<=64:=pcN_le 64 _
    obtain⟨q,hq⟩:∃ q,hd a t=q:=⟨_,rfl⟩
    have hcall:=F.decoder_FormatInformation_NumBitsDiffering.calls a t _ wr (bitsDiff a t (by omega) (by omega))
    rw [hq] at hcall hdl
    have HQ:=Aside0.mk hq
    clear e1 e2 hq
    by_cases hless:q<best
    ·go_wp2_with (go_at_call 128;refine hcall.mono ?_;rintro e w' ⟨rfl,hdr⟩;obtain⟨nd,rfl⟩:=hdr.out)
     go_roundw
     case rel=>exact⟨i+1,q,i,i+7,by omega,rfl,by go_num,by go_num,by omega,⟨fun _=>rfl⟩,⟨by have:=HE.out;unfold nearStep at this;rw [HQ.out,if_pos hless] at this;exact this⟩,by omega,⟨pw_below_drewN HBr.out _⟩⟩
     case measure=>simp [intOf];omega
    ·go_wp2_with (go_at_call 128;refine hcall.mono ?_;rintro e w' ⟨rfl,hdr⟩;obtain⟨nd,rfl⟩:=hdr.out)
     go_roundw
     case rel=>exact⟨i+1,best,idx,bv,by omega,rfl,rfl,by go_num,by omega,HBV,⟨by have:=HE.out;unfold nearStep at this;rw [HQ.out,if_neg hless] at this;exact this⟩,hbv,⟨pw_below_drewN HBr.out _⟩⟩
     case measure=>simp [intOf];omega
  ·have:i=34:=by omega
   subst this
   have hfin:=HG.out
   unfold goesOn at hfin
   rw [show verTabN.drop 34=[] from rfl,verGo] at hfin
   split at hfin
   ·rename_i hb3
    have hb3:best<=3:=hb3
    have hbvk:bv=k+7:=by
     have:=HBV.out hb3
     have e:idx=k:=Option.some.inj hfin
     omega
    subst hbvk
    clear hfin
    go_wp2_with (go_at_call 60;refine (verNum_ok _ (k+7) (by omega)).mono ?_;rintro e w' ⟨p,rfl,hp,hv,hb⟩)
    have HV:=Aside0.mk hv
    clear hv
    go_ret2
    refine⟨p,rfl,?_,HV.out,?_⟩
    ·have:=HB.out.size;have:=HBr.out.size;omega
    ·exact HB.out.trans ((HBr.out.mono HB.out.size).trans (hb.mono (Nat.le_trans HB.out.size HBr.out.size)))
   ·cases hfin
structure Upd (w w':World)(g:Nat):Prop where
 os:w'.os=w.os
 tape:w'.tape=w.tape
 output:w'.output=w.output
 size:w.heap.size<=w'.heap.size
 block:∀ k,k<w.heap.size->k≠g->w'.heap[k]? = w.heap[k]?
theorem Upd.refl (w:World)(g:Nat):Upd w w g:=⟨rfl,rfl,rfl,Nat.le_refl _,fun _ _ _=>rfl⟩
theorem Upd.trans {a b c:World}{g:Nat}(h:Upd a b g)(k:Upd b c g):Upd a c g :=
 ⟨k.os.trans h.os,k.tape.trans h.tape,k.output.trans h.output,Nat.le_trans h.size k.size,fun i hi hn=>(k.block i (Nat.lt_of_lt_of_le hi h.size) hn).trans (h.block i hi hn)⟩
theorem Upd.of_below {w w':World}(h:Below w.heap.size w w')(g:Nat):Upd w w' g:=⟨h.os,h.tape,h.output,h.size,fun k hk _=>h.block k hk⟩
theorem Upd.of_turn {w w':World}{g:Nat}(h:Turn w w' g):Upd w w' g:=⟨h.os,h.tape,h.output,by rw [h.size];exact Nat.le_refl _,fun k _ hn=>h.block k hn⟩
theorem Upd.set (w:World)(g i:Nat)(u:Value):Upd w (w.setCell ⟨g,i,none⟩ u) g:=Upd.of_turn (Turn.set w g i u)
theorem Upd.blk {w w':World}{g b:Nat}{t:TypeId}{cs:Array Value}(h:Upd w w' g)(hb:Blk w b t cs)(hne:b≠g):Blk w' b t cs:=(h.block b hb.lt hne).trans hb
theorem Upd.grid {w w':World}{p g b wd ht:Nat}{f:Nat->Nat->Bool}(h:Upd w w' p)(G:Grid w g b wd ht f)(h1:g≠p)(h2:b≠p):Grid w' g b wd ht f :=
 G.keep (h.block g G.lt.1 h1) (h.block b G.lt.2 h2)
theorem Upd.below {w0 w w':World}{g B:Nat}(h:Upd w w' g)(hb:Below B w0 w)(hg:B<=g)(hB:B<=w.heap.size):Below B w0 w' :=
 ⟨h.os.trans hb.os,h.tape.trans hb.tape,h.output.trans hb.output,Nat.le_trans hb.size h.size,fun k hk=>(h.block k (by omega) (by omega)).trans (hb.block k hk)⟩
theorem VerAt.upd {w w':World}{p pv:Nat}{n:Int}{v:VerRow}{cs:Array Value}(h:VerAt w pv n v)(hu:Upd w w' p)(hp:Blk w p 144 cs):VerAt w' pv n v:=by
 obtain⟨gc,ge,g,h1,h2,h3,h4⟩:=h
 exact⟨gc,ge,g,hu.blk h1 (blk_ne h1 hp (by decide)),hu.blk h2 (blk_ne h2 hp (by decide)),hu.blk h3 (blk_ne h3 hp (by decide)),fun l hl=>hu.blk (h4 l hl) (blk_ne (h4 l hl) hp (by decide))⟩
def Parser (w:World)(p g v:Nat)(fm:Value):Prop:=∃ x1,Blk w p 144 #[.pointer (some ⟨g,0,none⟩),x1,fm,.bool false]/\(x1=.pointer none\/∃ pv,x1=.pointer (some ⟨pv,0,none⟩)/\VerAt w pv (v:Int) (verRow v))
def vacc (f:Nat->Nat->Bool)(n:Nat):Nat->Nat
 | 0=>0
 | k+1=>2*vacc f n k+(f (n-9-k%3) (5-k/3)).toNat
theorem vacc_lt (f:Nat->Nat->Bool)(n:Nat):∀ k,vacc f n k<2 ^ k:=by
 intro k
 induction k with
 | zero=>exact Nat.one_pos
 | succ k ih=>
  rw [vacc,Nat.pow_succ]
  have:(f (n-9-k%3) (5-k/3)).toNat<=1:=Bool.toNat_le _
  omega
theorem vacc_small (f:Nat->Nat->Bool)(n k:Nat)(h:k<=18):vacc f n k<262144:=Nat.lt_of_lt_of_le (vacc_lt f n k) (Nat.pow_le_pow_right (n:=2) (by omega) h)
def VerRead (w:World)(p g v:Nat)(fm:Value)(e:Ending)(w':World):Prop:=∃ pv,e=.returned (.tuple #[.pointer (some ⟨pv,0,none⟩),.nilIface])/\VerAt w' pv (v:Int) (verRow v)/\Parser w' p g v fm/\Upd w w' p
theorem verDim (w:World)(p n:Nat)(v:VerRow)(h:VerAt w p (n:Int) v)(hn:1<=n/\n<=40):Calls Tryz.prog 86 #[.pointer (some ⟨p,0,none⟩)] w fun e w'=>e=.returned (.int .i64 ((17+4*n:Nat):Int))/\w=w':=by
 obtain⟨gc,ge,g,h1,_⟩:=h
 refine (ver_dim w p (n:Int) (by omega) (h1.cell 0)).mono ?_
 rintro e w' ⟨rfl,h⟩
 exact⟨ret_i (by omega),h⟩
theorem readVersion_small (w:World)(p g b v:Nat)(fm:Value)(f:Nat->Nat->Bool)(hP:Blk w p 144 #[.pointer (some ⟨g,0,none⟩),.pointer none,fm,.bool false])(G:Grid w g b (17+4*v) (17+4*v) f)(hv:1<=v/\v<=6) :
  Calls Tryz.prog 39 #[.pointer (some ⟨p,0,none⟩)] w (VerRead w p g v fm):=by
 have k:=gridHeight w g b _ _ f G
 have c0:w.cell? ⟨p,0,none⟩=some (.pointer (some ⟨g,0,none⟩)):=hP.cell 0
 have c1:w.cell? ⟨p,1,none⟩=some (.pointer none):=hP.cell 1
 obtain⟨hv1,hv2⟩:=hv
 obtain⟨n,hn⟩:∃ n,17+4*v=n:=⟨_,rfl⟩
 rw [hn] at k
 have hq:((n:Int)-17)/4=(v:Int):=by omega
 have hb1:17<=n:=by omega
 have hb2:n<=41:=by omega
 have HP:=Aside0.mk hP
 have HQ:=Aside0.mk hq
 clear hP hn G
 go_enter Tryz.func39,Tryz.ntmps39
 go_wp2_with (first | (go_at_call 83;refine k.mono ?_;rintro e w' ⟨rfl,rfl⟩) | (go_at_call 60;refine (verNum_ok _ v (by omega)).mono ?_;rintro e w' ⟨pv,rfl,hp,hv,hb⟩))
 have HV:=Aside0.mk hv
 clear hv
 go_ret2
 exact⟨pv,rfl,HV.out,⟨_,HP.out.below hb HP.out.lt,.inl rfl⟩,Upd.of_below hb p⟩
theorem readVersion_again (w:World)(p g v pv:Nat)(fm:Value)(hP:Blk w p 144 #[.pointer (some ⟨g,0,none⟩),.pointer (some ⟨pv,0,none⟩),fm,.bool false])(hV:VerAt w pv (v:Int) (verRow v)) :
  Calls Tryz.prog 39 #[.pointer (some ⟨p,0,none⟩)] w (VerRead w p g v fm):=by
 have c1:w.cell? ⟨p,1,none⟩=some (.pointer (some ⟨pv,0,none⟩)):=hP.cell 1
 have HP:=Aside0.mk hP
 have HV:=Aside0.mk hV
 clear hP hV
 go_enter Tryz.func39,Tryz.ntmps39
 go_wp2
 go_ret2
 exact⟨pv,rfl,HV.out,⟨_,HP.out,.inr ⟨pv,rfl,HV.out⟩⟩,Upd.refl _ _⟩
set_option maxHeartbeats 2000000 in
theorem readVersion_great (w:World)(p g b v:Nat)(fm:Value)(f:Nat->Nat->Bool)(hP:Blk w p 144 #[.pointer (some ⟨g,0,none⟩),.pointer none,fm,.bool false])(G:Grid w g b (17+4*v) (17+4*v) f)(hv:7<=v/\v<=40)
  (hd:hd (vacc f (17+4*v) 18) (verTabN.getD (v-7) 0)<=3) :
  Calls Tryz.prog 39 #[.pointer (some ⟨p,0,none⟩)] w (VerRead w p g v fm):=by
 have k:=gridHeight w g b _ _ f G
 have c0:w.cell? ⟨p,0,none⟩=some (.pointer (some ⟨g,0,none⟩)):=hP.cell 0
 have c1:w.cell? ⟨p,1,none⟩=some (.pointer none):=hP.cell 1
 obtain⟨hv1,hv2⟩:=hv
 obtain⟨n,hn⟩:∃ n,17+4*v=n:=⟨_,rfl⟩
 rw [hn] at k G hd
 have hq:6<((n:Int)-17)/4:=by omega
 have hb1:45<=n:=by omega
 have hb2:n<=177:=by omega
 have HP:=Aside0.mk hP
 have HG:=Aside0.mk G
 have HN:=Aside0.mk hn
 have HD:=Aside0.mk hd
 clear hP hn G hd
 go_enter Tryz.func39,Tryz.ntmps39
 go_wp2_with (first | (go_at_call 83;refine k.mono ?_;rintro e w' ⟨rfl,rfl⟩))
 go_loop [6,8] (fun vb vj=>∃ m x:Nat,m<=6/\vj=.int .i64 (5-(m:Int))/\vb=.int .i64 (x:Int)/\Aside0 (x=vacc f n (3*m))) (fun _ vj=>(intOf vj+1).toNat)
 case atStart=>exact⟨0,0,by omega,rfl,rfl,⟨rfl⟩⟩
 case round=>
  obtain⟨m,x,hm,rfl,rfl,HX⟩:=hrel
  by_cases hlt:m<6
  ·go_wp2
   go_loop [6,9] (fun vb vi=>∃ t y:Nat,t<=3/\vi=.int .i64 ((n:Int)-9-(t:Int))/\vb=.int .i64 (y:Int)/\Aside0 (y=vacc f n (3*m+t))) (fun _ vi=>(intOf vi-(n:Int)+12).toNat)
   case atStart=>exact⟨0,x,by omega,by go_num,rfl,HX⟩
   case round=>
    obtain⟨t,y,ht,rfl,rfl,HY⟩:=hrel
    by_cases hlt3:t<3
    ·have hcb:=copyBit w p g b n n f (.pointer none) fm (n-9-t) (5-m) y HP.out HG.out (by omega) (by omega) (by omega) (by omega) (by have:=vacc_small f n (3*m+t) (by omega);have:=HY.out;omega)
     rw [show ((n-9-t:Nat):Int)=(n:Int)-9-(t:Int) by omega,show ((5-m:Nat):Int)=5-(m:Int) by omega] at hcb
     have hy:2*y+(f (n-9-t) (5-m)).toNat=vacc f n (3*m+(t+1)):=by
      rw [show 3*m+(t+1)=3*m+t+1 by omega,vacc,<- HY.out,show (3*m+t)%3=t by omega,show (3*m+t)/3=m by omega]
     obtain⟨z,hz⟩:∃ z,2*y+(f (n-9-t) (5-m)).toNat=z:=⟨_,rfl⟩
     rw [hz] at hcb hy
     have HZ:=Aside0.mk hy
     clear hz hy
     go_wp2_with (go_at_call 84;refine hcb.mono ?_;rintro e w' ⟨rfl,rfl⟩)
     go_round
     case rel=>exact⟨t+1,z,by omega,by go_num,rfl,HZ⟩
     case measure=>simp [intOf];omega
    ·have:t=3:=by omega
     subst this
     go_wp2
     go_round
     case rel=>exact⟨m+1,y,by omega,by go_num,rfl,by rw [show 3*(m+1)=3*m+3 by omega];exact HY⟩
     case measure=>simp [intOf];omega
  ·have:m=6:=by omega
   subst this
   have ex:x=vacc f n 18:=HX.out
   have hx:x<262144:=by have:=vacc_small f n 18 (by omega);omega
   have hdec:=decVer w x (v-7) (by omega) hx (by rw [ex];exact HD.out)
   rw [show v-7+7=v by omega] at hdec
   have HEX:=Aside0.mk ex
   clear ex
   go_wp2_with (first | (go_at_call 85;refine hdec.mono ?_;rintro e w' ⟨pv,rfl,hp,hV,hB⟩;have hPb:=HP.out.below hB HP.out.lt;have d1:=hPb.cell 1;have d2:=hPb.frozen 1;have HV:=Aside0.mk hV;have HBW:=Aside0.mk hB;have HPB:=Aside0.mk hPb;clear hV hB hPb) | (go_at_call 86;have hvd:=verDim _ pv v (verRow v) HV.out (by omega);rw [HN.out] at hvd;refine hvd.mono ?_;rintro e w' ⟨rfl,rfl⟩;clear hvd))
   go_ret2
   have hu:Upd w (w'.setCell ⟨p,1,none⟩ (.pointer (some ⟨pv,0,none⟩))) p:=(Upd.of_below HBW.out p).trans (Upd.set _ _ _ _)
   have hVx:=HV.out.upd (Upd.set w' p 1 (.pointer (some ⟨pv,0,none⟩))) HPB.out
   refine⟨pv,rfl,hVx,⟨.pointer (some ⟨pv,0,none⟩),?_,.inr ⟨pv,rfl,hVx⟩⟩,hu⟩
   exact blk_set HPB.out 1 _
def cu (n:Nat):Operand:=.const (.int .u64 (n:Int))
def fmtKeys:List (Nat×Nat)->Nat->List OpKey
 | [],_=>[]
 | p :: L,i=>(.buildSlice 249 2 #[(0,cu p.1),(1,cu p.2)],some i,none) :: fmtKeys L (i+1)
def regOf (f:Func):Array Oper:=match f.body with
 | some (.seq _ (.seq (.region _ ops _) _))=>ops
 | _=>#[]
theorem body156:Tryz.f156.body=some (.seq (headOf Tryz.f156) (.seq (.region 1 (regOf Tryz.f156) false) .ret)):=by kernel_rfl
theorem head156:headOf Tryz.f156=.region 0 (regOps (headOf Tryz.f156)) false/\(regOps (headOf Tryz.f156)).toList.map keyOf=[(.assign (.const (.slice none 0 0)),some 0,none)]:=⟨by kernel_rfl,by kernel_rfl⟩
set_option maxRecDepth 100000 in
theorem keys156:(regOf Tryz.f156).toList.map keyOf=fmtKeys fmtTab 1++[(.buildSlice 247 32 (tmpsAt 1 32),some 33,none),(.assign (.tmp 33),some 0,none)]:=by kernel_rfl
theorem run_fmtRow (t d:Int)(W:World):(Instr.buildSlice 249 2 #[(0,.int .u64 t),(1,.int .u64 d)]).run Tryz.prog W=.ok (.slice (some ⟨W.heap.size,0,none⟩) 2 2) (W.alloc (.cells #[.int .u64 t,.int .u64 d] 150)):=by kernel_rfl
theorem eval_cu (t d:Nat)(A:Act):((#[(0,cu t),(1,cu d)]:Array (Nat×Operand)).map fun p=>(p.1,A.eval p.2))=#[(0,.int .u64 (t:Int)),(1,.int .u64 (d:Int))]:=by kernel_rfl
def RowsAt (W':World)(h:Nat)(L:List (Nat×Nat)):Prop:=∀ j,j<L.length->Blk W' (h+j) 150 #[.int .u64 ((L.getD j (0,0)).1:Int),.int .u64 ((L.getD j (0,0)).2:Int)]
theorem rows_wk {ops:Array Oper}{Q:Exit->Act->World->Prop}{ks:List OpKey}:∀ (L:List (Nat×Nat)) (i:Nat) (a:Act) (W:World),i+L.length<a.tmps.size->
  (∀ a' W',Ext a a' i->(∀ j,j<L.length->a'.eval (.tmp (i+j))=.slice (some ⟨W.heap.size+j,0,none⟩) 2 2)->RowsAt W' W.heap.size L->Below W.heap.size W W'->WK ops Q ks a' W')->WK ops Q (fmtKeys L i++ks) a W:=by
 intro L
 induction L with
 | nil=>intro i a W hs k;exact k a W (Ext.refl a i) (fun j hj=>by cases hj) (fun j hj=>by cases hj) (Below.refl _ _)
 | cons p L ih=>
  intro i a W hs k
  rw [List.length_cons] at hs
  rw [fmtKeys,List.cons_append]
  refine WK_slice 249 2 _ i _ (eval_cu p.1 p.2 a) _ (run_fmtRow p.1 p.2 W) ?_
  obtain⟨W1,hW1⟩:∃ W1,W1=W.alloc (.cells #[.int .u64 (p.1:Int),.int .u64 (p.2:Int)] 150):=⟨_,rfl⟩
  have hsz:W1.heap.size=W.heap.size+1:=by rw [hW1];simp
  have hb1:Below W.heap.size W W1:=by rw [hW1];exact below_alloc (Below.refl _ _) _
  have hB:Blk W1 W.heap.size 150 #[.int .u64 (p.1:Int),.int .u64 (p.2:Int)]:=by rw [hW1];exact Blk.new _ _ _
  rw [<- hW1]
  refine ih (i+1) _ _ (by rw [Act.size_put];omega) fun a' W' x e r b=>?_
  rw [hsz] at e r b
  have hb':Below W.heap.size W W':=hb1.trans (b.mono (by omega))
  refine k a' W' (((Ext.refl a i).put i _ (Nat.le_refl _)).trans x (by omega)) ?_ ?_ hb'
  ·intro j hj
   cases j with
   | zero=>
    rw [Nat.add_zero,Nat.add_zero,x.same i (by omega)]
    exact Act.eval_put_same _ _ _ (by omega)
   | succ j=>
    have:=e j (by simpa using hj)
    rw [show i+(j+1)=i+1+j by omega,show W.heap.size+(j+1)=W.heap.size+1+j by omega]
    exact this
  ·intro j hj
   cases j with
   | zero=>exact hB.below b (by omega)
   | succ j=>
    have:=r j (by simpa using hj)
    rw [show W.heap.size+(j+1)=W.heap.size+1+j by omega]
    exact this
def hdrVals (h:Nat):Array (Nat×Value):=((List.range 32).map fun j=>(j,Value.slice (some ⟨h+j,0,none⟩) 2 2)).toArray
def hdrCells (h:Nat):List Value:=(List.range 32).map fun j=>Value.slice (some ⟨h+j,0,none⟩) 2 2
set_option maxRecDepth 100000 in
theorem run_hdr (h:Nat)(W:World):(Instr.buildSlice 247 32 (hdrVals h)).run Tryz.prog W=.ok (.slice (some ⟨W.heap.size,0,none⟩) 32 32) (W.alloc (.cells (hdrCells h).toArray 249)):=by kernel_rfl
theorem eval_hdr (h:Nat)(a:Act)(he:∀ j,j<32->a.eval (.tmp (1+j))=.slice (some ⟨h+j,0,none⟩) 2 2):((tmpsAt 1 32).map fun p=>(p.1,a.eval p.2))=hdrVals h:=by
 unfold tmpsAt hdrVals
 rw [List.map_toArray,List.map_map]
 congr 1
 apply List.map_congr_left
 intro j hj
 rw [List.mem_range] at hj
 show (j,a.eval (.tmp (1+j)))=_
 rw [he j hj]
theorem fmt_call (w:World):Calls Tryz.prog 156 #[] w fun e w'=>∃ ad c,e=.returned (.slice (some ad) 32 c)/\32<=c/\
  (∀ i,i<32->∃ ax cx,w'.cell? (ad.add i)=some (.slice (some ax) 2 cx)/\2<=cx/\w'.cell? ax=some (.int .u64 (((fmtTab.getD i (0,0)).1:Nat):Int))/\w'.cell? ⟨ax.block,ax.off+1,none⟩=some (.int .u64 (((fmtTab.getD i (0,0)).2:Nat):Int)))/\Below w.heap.size w w':=by
 refine calls_of_wp Tryz.func156 body156 ?_
 obtain⟨a,ha⟩:∃ a:Act,a={ tmps:=(#[]:Array Value)++Array.replicate (Tryz.f156.ntmps-(#[]:Array Value).size) undef,defers:=[] }:=⟨_,rfl⟩
 have hsz:a.tmps.size=34:=by
  rw [ha]
  show ((#[]:Array Value)++Array.replicate (Tryz.f156.ntmps-0) undef).size=34
  rw [Array.size_append,Array.size_replicate,show Tryz.f156.ntmps=34 from by kernel_rfl]
  rfl
 have hdf:a.defers=[]:=by rw [ha]
 rw [<- ha]
 obtain⟨k1,k2⟩:=head156
 refine wp_seq ?_
 rw [k1]
 refine wp_region_list ?_
 refine (?_:WK _ _ _ a w) _ k2
 refine WK_assign _ 0 (WK_nil ?_)
 show Code.wp Tryz.prog _ _ _ w
 refine wp_seq (wp_region_list ?_)
 refine (?_:WK _ _ _ _ w) _ keys156
 refine rows_wk fmtTab 1 _ w (by rw [Act.size_put,hsz];decide) fun a' W' x e r b=>?_
 refine WK_slice 247 32 _ 33 _ (eval_hdr w.heap.size a' (fun j hj=>e j hj)) _ (run_hdr w.heap.size W') ?_
 refine WK_assign _ 0 (WK_nil ?_)
 show Code.wp Tryz.prog _ _ _ _
 refine wp_ret ?_
 have s1:a'.tmps.size=34:=by rw [x.size,Act.size_put,hsz]
 have e33:(a'.put (some 33) (.slice (some ⟨W'.heap.size,0,none⟩) 32 32)).eval (.tmp 33)=.slice (some ⟨W'.heap.size,0,none⟩) 32 32:=Act.eval_put_same _ _ _ (by omega)
 rw [e33]
 have e0:((a'.put (some 33) (.slice (some ⟨W'.heap.size,0,none⟩) 32 32)).put (some 0) (.slice (some ⟨W'.heap.size,0,none⟩) 32 32)).eval (.tmp 0)=.slice (some ⟨W'.heap.size,0,none⟩) 32 32:=Act.eval_put_same _ _ _ (by rw [Act.size_put];omega)
 have hD:((a'.put (some 33) (.slice (some ⟨W'.heap.size,0,none⟩) 32 32)).put (some 0) (.slice (some ⟨W'.heap.size,0,none⟩) 32 32)).defers=[]:=by rw [Act.defers_put',Act.defers_put',x.defers,Act.defers_put',hdf]
 obtain⟨A,hA⟩:∃ A,A=(a'.put (some 33) (.slice (some ⟨W'.heap.size,0,none⟩) 32 32)).put (some 0) (.slice (some ⟨W'.heap.size,0,none⟩) 32 32):=⟨_,rfl⟩
 rw [<- hA] at e0 hD ⊢
 clear hA
 refine bodyPost_ret (v:=.slice (some ⟨W'.heap.size,0,none⟩) 32 32) ?_ hD ?_
 ·rw [show results Tryz.f156=results { Tryz.f156 with results:=#[.tmp 0] } from by unfold results;rw [show Tryz.f156.results=#[.tmp 0] from by kernel_rfl]]
  have:(A.tmps[0]?.getD undef)=.slice (some ⟨W'.heap.size,0,none⟩) 32 32:=by simpa [Act.eval] using e0
  simp [results,go_sem,this]
 ·refine⟨⟨W'.heap.size,0,none⟩,32,rfl,Nat.le_refl _,?_,below_alloc b _⟩
  intro i hi
  have hH:=Blk.new W' 249 (hdrCells w.heap.size).toArray
  have hR:=(r i hi).alloc (.cells (hdrCells w.heap.size).toArray 249)
  refine⟨⟨w.heap.size+i,0,none⟩,2,?_,Nat.le_refl _,hR.cell 0,hR.cell 1⟩
  rw [add_plain,hH.cell]
  unfold hdrCells
  simp [List.getElem?_range hi]
theorem ecl_forBits (w:World)(c:Nat)(h:c<4):Calls Tryz.prog 169 #[.int .u64 (c:Int)] w fun e w'=>e=.returned (.tuple #[.int .i64 (c:Int),.nilIface])/\w=w':=by
 have h4:c=0\/c=1\/c=2\/c=3:=by omega
 clear h
 rcases h4 with rfl | rfl | rfl | rfl
 all_goals
  go_enter Tryz.func169,Tryz.ntmps169
  go_wp2
  go_ret2
  exact⟨rfl,rfl⟩
def FmtAt (w:World)(q d:Nat):Prop:=Blk w q 156 #[.int .i64 ((d/8:Nat):Int),.int .u8 ((d%8:Nat):Int)]
theorem newFmtInfo (w:World)(d:Nat)(h:d<32):Calls Tryz.prog 157 #[.int .u64 (d:Int)] w fun e w'=>e=.returned (.pointer (some ⟨w.heap.size,0,none⟩))/\FmtAt w' w.heap.size d/\Below w.heap.size w w':=by
 have h1:Go.bits .and .u64 ((d:Int)/8) 3=((d/8:Nat):Int):=by
  have:=u64_and_nat (d/8) 3 (by omega) (by omega)
  rw [show d/8 &&& 3=d/8%4 from Nat.and_two_pow_sub_one_eq_mod (n:=2) _,show d/8%4=d/8 by omega] at this
  rw [<- this];rfl
 have h2:Go.bits .and .u64 (d:Int) 7=((d%8:Nat):Int):=by
  have:=u64_and_nat d 7 (by omega) (by omega)
  rw [show d &&& 7=d%8 from Nat.and_two_pow_sub_one_eq_mod (n:=3) _] at this
  rw [<- this];rfl
 obtain⟨x,hx⟩:∃ x,d/8=x:=⟨_,rfl⟩
 obtain⟨y,hy⟩:∃ y,d%8=y:=⟨_,rfl⟩
 unfold FmtAt
 rw [hx] at h1
 rw [hy] at h2
 rw [hx,hy]
 have hxl:x<4:=by omega
 have hyl:y<8:=by omega
 clear hx hy
 go_enter Tryz.func157,Tryz.ntmps157
 go_wp2_with (go_at_call 169;refine (ecl_forBits _ x hxl).mono ?_;rintro e w' ⟨rfl,rfl⟩)
 go_ret
 exact⟨rfl,Blk.new _ _ _,(Below.refl _ _).alloc (Nat.le_refl _) _⟩
theorem fmtTab_lim:∀ i:Fin 32,(fmtTab.getD i.val (0,0)).1<65536/\(fmtTab.getD i.val (0,0)).2<32:=by decide
def goesF (a b d i best info:Nat):Prop:=fmtGo a b (fmtTab.drop i) (best,info)=some d
theorem goesF_step {a b d i best info:Nat}(hi:i<32)(h:goesF a b d i best info) :
  (((fmtTab.getD i (0,0)).1=a\/(fmtTab.getD i (0,0)).1=b)/\(fmtTab.getD i (0,0)).2=d)\/
  ((¬ ((fmtTab.getD i (0,0)).1=a\/(fmtTab.getD i (0,0)).1=b))/\goesF a b d (i+1) (fmtStep a b (fmtTab.getD i (0,0)).1 (fmtTab.getD i (0,0)).2 (best,info)).1 (fmtStep a b (fmtTab.getD i (0,0)).1 (fmtTab.getD i (0,0)).2 (best,info)).2):=by
 have hl:i<fmtTab.length:=hi
 have hd:fmtTab.drop i=fmtTab.getD i (0,0) :: fmtTab.drop (i+1):=by
  rw [List.drop_eq_getElem_cons hl,List.getD_eq_getElem?_getD,List.getElem?_eq_getElem hl]
  rfl
 unfold goesF at h ⊢
 rw [hd] at h
 generalize fmtTab.getD i (0,0)=x at h ⊢
 obtain⟨t,dd⟩:=x
 rw [fmtGo] at h
 by_cases hc:t=a\/t=b
 ·rw [if_pos hc] at h
  exact .inl ⟨hc,Option.some.inj h⟩
 ·rw [if_neg hc] at h
  exact .inr ⟨hc,h⟩
def SomeFmt (w:World)(d:Nat)(e:Ending)(w':World):Prop:=∃ q,e=.returned (.pointer (some ⟨q,0,none⟩))/\w.heap.size<=q/\FmtAt w' q d/\Below w.heap.size w w'
set_option maxHeartbeats 2000000 in
theorem doDec (w:World)(a b d:Nat)(ha:a<65536)(hb:b<65536)(hd32:d<32)(hg:fmtGo a b fmtTab (2147483647,0)=some d) :
  Calls Tryz.prog 130 #[.int .u64 (a:Int),.int .u64 (b:Int)] w (SomeFmt w d):=by
 have H0:=Aside0.mk (show goesF a b d 0 2147483647 0 from hg)
 clear hg
 go_enter Tryz.func130,Tryz.ntmps130
 go_wp2_with (go_at_call 156;refine (fmt_call _).mono ?_;rintro e w' ⟨ad,c,rfl,hc,hcell,hb⟩)
 have HC:=Aside0.mk hcell
 have HB:=Aside0.mk hb
 obtain⟨w1,rfl⟩:∃ w1:World,w1=w':=⟨_,rfl⟩
 clear hcell hb
 go_loopw [5,6,13] (fun vb vv vi wr=>∃ i best info:Nat,i<=32/\vb=.int .i64 (best:Int)/\vv=.int .u64 (info:Int)/\vi=.int .i64 (i:Int)/\best<=2147483647/\info<32/\Aside0 (goesF a b d i best info)/\Aside0 (Below w1.heap.size w1 wr)) (fun _ _ vi _=>(32-intOf vi).toNat)
 case atStart=>exact⟨0,2147483647,0,by omega,rfl,rfl,rfl,by omega,by omega,H0,⟨Below.refl _ _⟩⟩
 case round=>
  obtain⟨i,best,info,hi,rfl,rfl,rfl,hbest,hinfo,HG,HBr⟩:=hrel
  by_cases hlt32:i<32
  ·obtain⟨ax,cx,q0,hcx,q1,q2⟩:=HC.out i hlt32
   have hlim:=fmtTab_lim ⟨i,hlt32⟩
   have hst:=goesF_step hlt32 HG.out
   simp only at hlim
   obtain⟨t,ht⟩:∃ t,(fmtTab.getD i (0,0)).1=t:=⟨_,rfl⟩
   obtain⟨dd,hdd⟩:∃ dd,(fmtTab.getD i (0,0)).2=dd:=⟨_,rfl⟩
   rw [ht,hdd] at hst hlim
   rw [ht] at q1
   rw [hdd] at q2
   obtain⟨hl1,hl2⟩:=hlim
   replace q0:=pw_cell_below HBr.out q0
   replace q1:=pw_cell_below HBr.out q1
   replace q2:=pw_cell_below HBr.out q2
   clear ht hdd
   rcases hst with⟨e1,e2⟩ | ⟨e1,e2⟩
   ·subst e2
    rcases Decidable.em (t=a) with e3 | e3
    ·subst e3
     clear e1
     go_wp2_with (go_at_call 157;refine (newFmtInfo _ dd hl2).mono ?_;rintro e w' ⟨rfl,hf,hbf⟩)
     have HF:=Aside0.mk hf
     clear hf
     go_ret
     refine⟨_,rfl,?_,HF.out,?_⟩
     ·have:=HB.out.size;have:=HBr.out.size;omega
     ·exact HB.out.trans ((HBr.out.mono HB.out.size).trans (hbf.mono (Nat.le_trans HB.out.size HBr.out.size)))
    ·have e4:t=b:=by rcases e1 with e | e;exact absurd e e3;exact e
     subst e4
     have hne:((t:Int)==(a:Int))=false:=by simpa using (fun h:(t:Int)=(a:Int)=>e3 (by omega))
     clear e1 e3
     go_wp2_with (go_at_call 157;refine (newFmtInfo _ dd hl2).mono ?_;rintro e w' ⟨rfl,hf,hbf⟩)
     have HF:=Aside0.mk hf
     clear hf
     go_ret
     refine⟨_,rfl,?_,HF.out,?_⟩
     ·have:=HB.out.size;have:=HBr.out.size;omega
     ·exact HB.out.trans ((HBr.out.mono HB.out.size).trans (hbf.mono (Nat.le_trans HB.out.size HBr.out.size)))
   ·have hta:t≠a:=fun h=>e1 (.inl h)
    have htb:t≠b:=fun h=>e1 (.inr h)
    have hne1:((t:Int)==(a:Int))=false:=by simpa using (fun h:(t:Int)=(a:Int)=>hta (by omega))
    have hne2:((t:Int)==(b:Int))=false:=by simpa using (fun h:(t:Int)=(b:Int)=>htb (by omega))
    have hdl1:hd a t<=64:=pcN_le 64 _
    have hdl2:hd b t<=64:=pcN_le 64 _
    have hcall1:=F.decoder_FormatInformation_NumBitsDiffering.calls a t _ wr (bitsDiff a t (by omega) (by omega))
    have hcall2:=fun W=>F.decoder_FormatInformation_NumBitsDiffering.calls b t _ W (bitsDiff b t (by omega) (by omega))
    obtain⟨x,hx⟩:∃ x,hd a t=x:=⟨_,rfl⟩
    obtain⟨y,hy⟩:∃ y,hd b t=y:=⟨_,rfl⟩
    have HE:=Aside0.mk e2
    rw [hx] at hcall1 hdl1
    simp only [hy] at hcall2
    rw [hy] at hdl2
    have HX:=Aside0.mk hx
    have HY:=Aside0.mk hy
    have HC2:=Aside0.mk hcall2
    clear e1 e2 hx hy hta htb hcall2
    rcases Decidable.em (a=b) with hab | hab
    ·subst hab
     by_cases hl:x<best
     ·go_wp2_with (go_at_call 128;refine hcall1.mono ?_;rintro e w' ⟨rfl,hdr⟩;obtain⟨nd,rfl⟩:=hdr.out)
      go_roundw
      case rel=>exact⟨i+1,x,dd,by omega,rfl,by go_num,by go_num,by omega,hl2,⟨by have:=HE.out;unfold fmtStep nearStep at this;rw [if_pos rfl,HX.out,if_pos hl] at this;exact this⟩,⟨pw_below_drewN HBr.out _⟩⟩
      case measure=>simp [intOf];omega
     ·go_wp2_with (go_at_call 128;refine hcall1.mono ?_;rintro e w' ⟨rfl,hdr⟩;obtain⟨nd,rfl⟩:=hdr.out)
      go_roundw
      case rel=>exact⟨i+1,best,info,by omega,rfl,by go_num,by go_num,by omega,hinfo,⟨by have:=HE.out;unfold fmtStep nearStep at this;rw [if_pos rfl,HX.out,if_neg hl] at this;exact this⟩,⟨pw_below_drewN HBr.out _⟩⟩
      case measure=>simp [intOf];omega
    ·have hne3:((a:Int)==(b:Int))=false:=by simpa using (fun h:(a:Int)=(b:Int)=>hab (by omega))
     have hne4:((a:Int) != (b:Int))=true:=by rw [bne,hne3];rfl
     have HAB:=Aside0.mk hab
     clear hab
     have hstep:∀ s:Nat×Nat,fmtStep a b t dd s=nearStep b t dd (nearStep a t dd s):=fun s=>if_neg HAB.out
     by_cases hl:x<best
     ·by_cases hk:y<x
      ·have HS:=Aside0.mk (show fmtStep a b t dd (best,info)=(y,dd) by rw [hstep];unfold nearStep;rw [HX.out,HY.out,if_pos (show x<(best,info).1 from hl),if_pos (show y<(x,dd).1 from hk)])
       clear hstep
       go_wp2_with (first | (go_at_call_of 128 (a:Int);refine hcall1.mono ?_;rintro e w' ⟨rfl,hdr⟩;obtain⟨nd,rfl⟩:=hdr.out) | (go_at_call 128;refine (HC2.out _).mono ?_;rintro e w' ⟨rfl,hdr⟩;obtain⟨nd2,rfl⟩:=hdr.out))
       go_roundw
       case rel=>exact⟨i+1,y,dd,by omega,rfl,by go_num,by go_num,by omega,hl2,⟨by have:=HE.out;rw [HS.out] at this;exact this⟩,⟨by repeat (first | exact HBr.out | apply pw_below_drewN)⟩⟩
       case measure=>simp [intOf];omega
      ·have HS:=Aside0.mk (show fmtStep a b t dd (best,info)=(x,dd) by rw [hstep];unfold nearStep;rw [HX.out,HY.out,if_pos (show x<(best,info).1 from hl),if_neg (show ¬ y<(x,dd).1 from hk)])
       clear hstep
       go_wp2_with (first | (go_at_call_of 128 (a:Int);refine hcall1.mono ?_;rintro e w' ⟨rfl,hdr⟩;obtain⟨nd,rfl⟩:=hdr.out) | (go_at_call 128;refine (HC2.out _).mono ?_;rintro e w' ⟨rfl,hdr⟩;obtain⟨nd2,rfl⟩:=hdr.out))
       go_roundw
       case rel=>exact⟨i+1,x,dd,by omega,rfl,by go_num,by go_num,by omega,hl2,⟨by have:=HE.out;rw [HS.out] at this;exact this⟩,⟨by repeat (first | exact HBr.out | apply pw_below_drewN)⟩⟩
       case measure=>simp [intOf];omega
     ·by_cases hk:y<best
      ·have HS:=Aside0.mk (show fmtStep a b t dd (best,info)=(y,dd) by rw [hstep];unfold nearStep;rw [HX.out,HY.out,if_neg (show ¬ x<(best,info).1 from hl),if_pos (show y<(best,info).1 from hk)])
       clear hstep
       go_wp2_with (first | (go_at_call_of 128 (a:Int);refine hcall1.mono ?_;rintro e w' ⟨rfl,hdr⟩;obtain⟨nd,rfl⟩:=hdr.out) | (go_at_call 128;refine (HC2.out _).mono ?_;rintro e w' ⟨rfl,hdr⟩;obtain⟨nd2,rfl⟩:=hdr.out))
       go_roundw
       case rel=>exact⟨i+1,y,dd,by omega,rfl,by go_num,by go_num,by omega,hl2,⟨by have:=HE.out;rw [HS.out] at this;exact this⟩,⟨by repeat (first | exact HBr.out | apply pw_below_drewN)⟩⟩
       case measure=>simp [intOf];omega
      ·have HS:=Aside0.mk (show fmtStep a b t dd (best,info)=(best,info) by rw [hstep];unfold nearStep;rw [HX.out,HY.out,if_neg (show ¬ x<(best,info).1 from hl),if_neg (show ¬ y<(best,info).1 from hk)])
       clear hstep
       go_wp2_with (first | (go_at_call_of 128 (a:Int);refine hcall1.mono ?_;rintro e w' ⟨rfl,hdr⟩;obtain⟨nd,rfl⟩:=hdr.out) | (go_at_call 128;refine (HC2.out _).mono ?_;rintro e w' ⟨rfl,hdr⟩;obtain⟨nd2,rfl⟩:=hdr.out))
       go_roundw
       case rel=>exact⟨i+1,best,info,by omega,rfl,by go_num,by go_num,by omega,hinfo,⟨by have:=HE.out;rw [HS.out] at this;exact this⟩,⟨by repeat (first | exact HBr.out | apply pw_below_drewN)⟩⟩
       case measure=>simp [intOf];omega
  ·have:i=32:=by omega
   subst this
   have hfin:=HG.out
   unfold goesF at hfin
   rw [show fmtTab.drop 32=[] from rfl,fmtGo] at hfin
   split at hfin
   ·rename_i hb3
    have hb3:best<=3:=hb3
    have e:info=d:=Option.some.inj hfin
    subst e
    clear hfin
    go_wp2_with (go_at_call 157;refine (newFmtInfo _ info hinfo).mono ?_;rintro e w' ⟨rfl,hf,hbf⟩)
    have HF:=Aside0.mk hf
    clear hf
    go_ret
    refine⟨_,rfl,?_,HF.out,?_⟩
    ·have:=HB.out.size;have:=HBr.out.size;omega
    ·exact HB.out.trans ((HBr.out.mono HB.out.size).trans (hbf.mono (Nat.le_trans HB.out.size HBr.out.size)))
   ·cases hfin
theorem decFmt (w:World)(a b d:Nat)(ha:a<65536)(hb:b<65536)(hd:d<32)(hg:fmtGo a b fmtTab (2147483647,0)=some d) :
  Calls Tryz.prog 88 #[.int .u64 (a:Int),.int .u64 (b:Int)] w (SomeFmt w d):=by
 have k:=doDec w a b d ha hb hd hg
 clear hg
 go_enter Tryz.func88,Tryz.ntmps88
 go_wp2_with (go_at_call 130;refine k.mono ?_;rintro e w' ⟨q,rfl,hq,hf,hB⟩)
 have HF:=Aside0.mk hf
 clear hf
 go_ret
 exact⟨q,rfl,hq,HF.out,hB⟩
def nacc (g:Nat->Bool):Nat->Nat
 | 0=>0
 | k+1=>2*nacc g k+(g k).toNat
theorem nacc_lt (g:Nat->Bool):∀ k,nacc g k<2 ^ k:=by
 intro k
 induction k with
 | zero=>exact Nat.one_pos
 | succ k ih=>
  rw [nacc,Nat.pow_succ]
  have:(g k).toNat<=1:=Bool.toNat_le _
  omega
def fat1 (f:Nat->Nat->Bool)(k:Nat):Bool:=if k<6 then f k 8 else if k=6 then f 7 8 else if k=7 then f 8 8 else if k=8 then f 8 7 else f 8 (14-k)
def fat2 (f:Nat->Nat->Bool)(n k:Nat):Bool:=if k<7 then f 8 (n-1-k) else f (n-15+k) 8
theorem nacc_small (g:Nat->Bool)(k:Nat)(h:k<=15):nacc g k<32768:=Nat.lt_of_lt_of_le (nacc_lt g k) (Nat.pow_le_pow_right (n:=2) (by omega) h)
def FmtRead (w:World)(p g v d:Nat)(e:Ending)(w':World):Prop:=∃ q,e=.returned (.tuple #[.pointer (some ⟨q,0,none⟩),.nilIface])/\FmtAt w' q d/\Parser w' p g v (.pointer (some ⟨q,0,none⟩))/\Upd w w' p
theorem readFormat_again (w:World)(p g v q d:Nat)(hP:Parser w p g v (.pointer (some ⟨q,0,none⟩)))(hF:FmtAt w q d) :
  Calls Tryz.prog 40 #[.pointer (some ⟨p,0,none⟩)] w (FmtRead w p g v d):=by
 obtain⟨x1,hB,hx⟩:=hP
 have c1:w.cell? ⟨p,2,none⟩=some (.pointer (some ⟨q,0,none⟩)):=hB.cell 2
 have HB:=Aside0.mk hB
 have HX:=Aside0.mk hx
 have HF:=Aside0.mk hF
 clear hB hx hF
 go_enter Tryz.func40,Tryz.ntmps40
 go_wp2
 go_ret2
 exact⟨q,rfl,HF.out,⟨x1,HB.out,HX.out⟩,Upd.refl _ _⟩
set_option maxHeartbeats 4000000 in
theorem readFormat (w:World)(p g b v d:Nat)(f:Nat->Nat->Bool)(hP:Parser w p g v (.pointer none))(G:Grid w g b (17+4*v) (17+4*v) f)(hv:1<=v/\v<=40)(hd:d<32)
  (hg:fmtGo (nacc (fat1 f) 15) (nacc (fat2 f (17+4*v)) 15) fmtTab (2147483647,0)=some d) :
  Calls Tryz.prog 40 #[.pointer (some ⟨p,0,none⟩)] w (FmtRead w p g v d):=by
 obtain⟨x1,hB,hx⟩:=hP
 have k:=gridHeight w g b _ _ f G
 have c0:w.cell? ⟨p,0,none⟩=some (.pointer (some ⟨g,0,none⟩)):=hB.cell 0
 have c2:w.cell? ⟨p,2,none⟩=some (.pointer none):=hB.cell 2
 obtain⟨n,hn⟩:∃ n,17+4*v=n:=⟨_,rfl⟩
 rw [hn] at k G hg
 have hb1:21<=n:=by omega
 have hb2:n<=177:=by omega
 have HB:=Aside0.mk hB
 have HX:=Aside0.mk hx
 have HG:=Aside0.mk G
 have HD:=Aside0.mk hg
 clear hB hx G hg hn hv
 go_enter Tryz.func40,Tryz.ntmps40
 go_wp2
 go_loop [4,5] (fun va vi=>∃ i x:Nat,i<=6/\vi=.int .i64 (i:Int)/\va=.int .i64 (x:Int)/\Aside0 (x=nacc (fat1 f) i)) (fun _ vi=>(6-intOf vi).toNat)
 case atStart=>exact⟨0,0,by omega,rfl,rfl,⟨rfl⟩⟩
 case round=>
  obtain⟨i,x,hi,rfl,rfl,HX1⟩:=hrel
  have hxl:x<32768:=by have:=nacc_small (fat1 f) i (by omega);have:=HX1.out;omega
  by_cases hlt:i<6
  ·have hcb:=copyBit w p g b n n f x1 (.pointer none) i 8 x HB.out HG.out (by omega) (by omega) (by omega) (by omega) (by omega)
   have hy:2*x+(f i 8).toNat=nacc (fat1 f) (i+1):=by
    rw [nacc,<- HX1.out,show fat1 f i=f i 8 from by unfold fat1;rw [if_pos hlt]]
   obtain⟨z,hz⟩:∃ z,2*x+(f i 8).toNat=z:=⟨_,rfl⟩
   rw [hz] at hcb hy
   have HZ:=Aside0.mk hy
   clear hz hy
   go_wp2_with (go_at_call 84;refine hcb.mono ?_;rintro e w' ⟨rfl,rfl⟩)
   go_round
   case rel=>exact⟨i+1,z,by omega,by go_num,rfl,HZ⟩
   case measure=>simp [intOf];omega
  ·have:i=6:=by omega
   subst this
   obtain⟨x7,h7⟩:∃ z,2*x+(f 7 8).toNat=z:=⟨_,rfl⟩
   have e7:x7=nacc (fat1 f) 7:=by rw [nacc,<- HX1.out,<- h7];rfl
   have l7:=nacc_small (fat1 f) 7 (by omega)
   rw [<- e7] at l7
   obtain⟨x8,h8⟩:∃ z,2*x7+(f 8 8).toNat=z:=⟨_,rfl⟩
   have e8:x8=nacc (fat1 f) 8:=by rw [nacc,<- e7,<- h8];rfl
   have l8:=nacc_small (fat1 f) 8 (by omega)
   rw [<- e8] at l8
   obtain⟨x9,h9⟩:∃ z,2*x8+(f 8 7).toNat=z:=⟨_,rfl⟩
   have e9:x9=nacc (fat1 f) 9:=by rw [nacc,<- e8,<- h9];rfl
   have l9:=nacc_small (fat1 f) 9 (by omega)
   rw [<- e9] at l9
   have k7:=copyBit w p g b n n f x1 (.pointer none) 7 8 x HB.out HG.out (by omega) (by omega) (by omega) (by omega) (by omega)
   have k8:=copyBit w p g b n n f x1 (.pointer none) 8 8 x7 HB.out HG.out (by omega) (by omega) (by omega) (by omega) (by omega)
   have k9:=copyBit w p g b n n f x1 (.pointer none) 8 7 x8 HB.out HG.out (by omega) (by omega) (by omega) (by omega) (by omega)
   rw [h7] at k7
   rw [h8] at k8
   rw [h9] at k9
   have HE:=Aside0.mk e9
   clear e7 e8 e9 h7 h8 h9
   go_wp2_with (first | (go_at_call_of 84 (x:Int);refine k7.mono ?_;rintro e w' ⟨rfl,rfl⟩) | (go_at_call_of 84 (x7:Int);refine k8.mono ?_;rintro e w' ⟨rfl,rfl⟩) | (go_at_call_of 84 (x8:Int);refine k9.mono ?_;rintro e w' ⟨rfl,rfl⟩))
   clear k7 k8 k9
   go_loop [4,6] (fun va vj=>∃ m y:Nat,m<=6/\vj=.int .i64 (5-(m:Int))/\va=.int .i64 (y:Int)/\Aside0 (y=nacc (fat1 f) (9+m))) (fun _ vj=>(intOf vj+1).toNat)
   case atStart=>exact⟨0,x9,by omega,rfl,rfl,HE⟩
   case round=>
    obtain⟨m,y,hm,rfl,rfl,HY⟩:=hrel
    have hyl:y<32768:=by have:=nacc_small (fat1 f) (9+m) (by omega);have:=HY.out;omega
    by_cases hlt6:m<6
    ·have hcb:=copyBit w p g b n n f x1 (.pointer none) 8 (5-m) y HB.out HG.out (by omega) (by omega) (by omega) (by omega) (by omega)
     rw [show ((5-m:Nat):Int)=5-(m:Int) by omega] at hcb
     have hy:2*y+(f 8 (5-m)).toNat=nacc (fat1 f) (9+(m+1)):=by
      rw [show 9+(m+1)=9+m+1 by omega,nacc,<- HY.out,show fat1 f (9+m)=f 8 (5-m) from by unfold fat1;rw [if_neg (by omega),if_neg (by omega),if_neg (by omega),if_neg (by omega),show 14-(9+m)=5-m by omega]]
     obtain⟨z,hz⟩:∃ z,2*y+(f 8 (5-m)).toNat=z:=⟨_,rfl⟩
     rw [hz] at hcb hy
     have HZ:=Aside0.mk hy
     clear hz hy
     go_wp2_with (go_at_call 84;refine hcb.mono ?_;rintro e w' ⟨rfl,rfl⟩)
     go_round
     case rel=>exact⟨m+1,z,by omega,by go_num,rfl,HZ⟩
     case measure=>simp [intOf];omega
    ·have:m=6:=by omega
     subst this
     have HA:=Aside0.mk (show y=nacc (fat1 f) 15 from HY.out)
     clear hyl
     have hyl:y<32768:=by have:=nacc_small (fat1 f) 15 (by omega);have:=HA.out;omega
     go_wp2_with (go_at_call 83;refine k.mono ?_;rintro e w' ⟨rfl,rfl⟩)
     go_loop [8,10] (fun va vj=>∃ t s:Nat,t<=7/\vj=.int .i64 ((n:Int)-1-(t:Int))/\va=.int .i64 (s:Int)/\Aside0 (s=nacc (fat2 f n) t)) (fun _ vj=>(intOf vj-(n:Int)+8).toNat)
     case atStart=>exact⟨0,0,by omega,by go_num,rfl,⟨rfl⟩⟩
     case round=>
      obtain⟨t,s,ht,rfl,rfl,HS⟩:=hrel
      have hsl:s<32768:=by have:=nacc_small (fat2 f n) t (by omega);have:=HS.out;omega
      by_cases hlt7:t<7
      ·have hcb:=copyBit w p g b n n f x1 (.pointer none) 8 (n-1-t) s HB.out HG.out (by omega) (by omega) (by omega) (by omega) (by omega)
       rw [show ((n-1-t:Nat):Int)=(n:Int)-1-(t:Int) by omega] at hcb
       have hy:2*s+(f 8 (n-1-t)).toNat=nacc (fat2 f n) (t+1):=by
        rw [nacc,<- HS.out,show fat2 f n t=f 8 (n-1-t) from by unfold fat2;rw [if_pos hlt7]]
       obtain⟨z,hz⟩:∃ z,2*s+(f 8 (n-1-t)).toNat=z:=⟨_,rfl⟩
       rw [hz] at hcb hy
       have HZ:=Aside0.mk hy
       clear hz hy
       go_wp2_with (go_at_call 84;refine hcb.mono ?_;rintro e w' ⟨rfl,rfl⟩)
       go_round
       case rel=>exact⟨t+1,z,by omega,by go_num,rfl,HZ⟩
       case measure=>simp [intOf];omega
      ·have:t=7:=by omega
       subst this
       go_wp2
       go_loop [8,11] (fun va vi=>∃ t s:Nat,t<=8/\vi=.int .i64 ((n:Int)-8+(t:Int))/\va=.int .i64 (s:Int)/\Aside0 (s=nacc (fat2 f n) (7+t))) (fun _ vi=>((n:Int)-intOf vi).toNat)
       case atStart=>exact⟨0,s,by omega,by go_num,rfl,HS⟩
       case round=>
        obtain⟨t,s,ht,rfl,rfl,HS⟩:=hrel
        have hsl:s<32768:=by have:=nacc_small (fat2 f n) (7+t) (by omega);have:=HS.out;omega
        by_cases hlt8:t<8
        ·have hcb:=copyBit w p g b n n f x1 (.pointer none) (n-8+t) 8 s HB.out HG.out (by omega) (by omega) (by omega) (by omega) (by omega)
         rw [show ((n-8+t:Nat):Int)=(n:Int)-8+(t:Int) by omega] at hcb
         have hy:2*s+(f (n-8+t) 8).toNat=nacc (fat2 f n) (7+(t+1)):=by
          rw [show 7+(t+1)=7+t+1 by omega,nacc,<- HS.out,show fat2 f n (7+t)=f (n-8+t) 8 from by unfold fat2;rw [if_neg (by omega),show n-15+(7+t)=n-8+t by omega]]
         obtain⟨z,hz⟩:∃ z,2*s+(f (n-8+t) 8).toNat=z:=⟨_,rfl⟩
         rw [hz] at hcb hy
         have HZ:=Aside0.mk hy
         clear hz hy
         go_wp2_with (go_at_call 84;refine hcb.mono ?_;rintro e w' ⟨rfl,rfl⟩)
         go_round
         case rel=>exact⟨t+1,z,by omega,by go_num,rfl,HZ⟩
         case measure=>simp [intOf];omega
        ·have:t=8:=by omega
         subst this
         have HA2:=Aside0.mk (show s=nacc (fat2 f n) 15 from HS.out)
         have hdec:=decFmt w y s d (by omega) (by omega) hd (by rw [HA.out,HA2.out];exact HD.out)
         go_wp2_with (go_at_call 88;refine hdec.mono ?_;rintro e w' ⟨q,rfl,hq,hF,hBw⟩;have hPb:=HB.out.below hBw HB.out.lt;have d0:=hPb.cell 0;have d2:=hPb.cell 2;have d3:=hPb.frozen 2;have HF:=Aside0.mk hF;have HBW:=Aside0.mk hBw;have HPB:=Aside0.mk hPb;clear hF hBw hPb)
         go_ret2
         have hu:Upd w (w'.setCell ⟨p,2,none⟩ (.pointer (some ⟨q,0,none⟩))) p:=(Upd.of_below HBW.out p).trans (Upd.set _ _ _ _)
         refine⟨q,rfl,(Upd.set w' p 2 (.pointer (some ⟨q,0,none⟩))).blk HF.out (blk_ne HF.out HPB.out (by decide)),⟨x1,blk_set HPB.out 2 _,?_⟩,hu⟩
         rcases HX.out with h | ⟨pv,h,hV⟩
         ·exact .inl h
         ·exact .inr ⟨pv,h,(hV.upd (Upd.of_below HBW.out p) HB.out).upd (Upd.set w' p 2 (.pointer (some ⟨q,0,none⟩))) HPB.out⟩
def ints (xs:List Nat):List Int:=xs.map fun (x:Nat)=>(x:Int)
theorem ints_len (xs:List Nat):(ints xs).length=xs.length:=by simp [ints]
theorem ints_get (xs:List Nat)(i:Nat):(ints xs).getD i 0=((xs.getD i 0:Nat):Int):=by
 unfold ints
 rw [List.getD_eq_getElem?_getD,List.getD_eq_getElem?_getD,List.getElem?_map]
 cases xs[i]?<;>rfl
def strip (xs:List Nat):List Nat:=match xs.dropWhile (·==0) with | []=>[0] | y :: ys=>y :: ys
theorem strip_lead {xs:List Nat}(h:xs.length=1\/xs.getD 0 0≠0)(h0:xs≠[]):strip xs=xs:=by
 unfold strip
 cases xs with
 | nil=>exact absurd rfl h0
 | cons x xs=>
  by_cases hx:x=0
  ·subst hx
   rcases h with h | h
   ·have:xs=[]:=by simpa using h
    subst this
    rfl
   ·exact absurd rfl h
  ·rw [List.dropWhile_cons,if_neg (by simpa using hx)]
theorem drop_zeros:∀ (xs:List Nat) (k:Nat),k<=xs.length->(∀ i,i<k->xs.getD i 0=0)->xs.dropWhile (·==0)=(xs.drop k).dropWhile (·==0):=by
 intro xs
 induction xs with
 | nil=>intro k hk _;simp at hk;subst hk;rfl
 | cons x xs ih=>
  intro k hk h
  cases k with
  | zero=>rfl
  | succ k=>
   have hx:x=0:=h 0 (by omega)
   subst hx
   rw [List.dropWhile_cons,if_pos (by rfl),List.drop_succ_cons]
   exact ih k (by simpa using hk) (fun i hi=>by have:=h (i+1) (by omega);simpa using this)
theorem strip_drop {xs:List Nat}{k:Nat}(hk:k<xs.length)(h:∀ i,i<k->xs.getD i 0=0)(hx:xs.getD k 0≠0):strip xs=xs.drop k:=by
 unfold strip
 rw [drop_zeros xs k (by omega) h,List.drop_eq_getElem_cons hk]
 have:xs[k]≠0:=by rw [List.getD_eq_getElem?_getD,List.getElem?_eq_getElem hk] at hx;exact hx
 rw [List.dropWhile_cons,if_neg (by simpa using this)]
theorem strip_none {xs:List Nat}(h:∀ i,i<xs.length->xs.getD i 0=0):strip xs=[0]:=by
 unfold strip
 rw [drop_zeros xs xs.length (Nat.le_refl _) h,List.drop_length]
 rfl
theorem info3i:(Tryz.prog.info? 3).map (fun i=>(i.zero,i.size,i.bytes))=some (some (.int .i64 0),1,8):=by kernel_rfl
def IBlk (w:World)(g:Nat)(xs:List Nat):Prop:=Blk w g 3 (nums .i64 (ints xs)).toArray
theorem IBlk.cell {w:World}{g:Nat}{xs:List Nat}(h:IBlk w g xs)(i:Nat)(hi:i<xs.length):w.cell? ⟨g,i,none⟩=some (.int .i64 ((xs.getD i 0:Nat):Int)):=by
 have:=Blk.ucell h (i:Int) (by omega) (by rw [ints_len];omega)
 rw [Int.toNat_natCast] at this
 rw [this,<- ints_get]
 unfold rd
 rw [Int.toNat_natCast]
theorem IBlk.set {w:World}{g:Nat}{xs:List Nat}(h:IBlk w g xs)(i v:Nat):IBlk (w.setCell ⟨g,i,none⟩ (.int .i64 (v:Int))) g (xs.set i v):=by
 have:=Blk.uset h i (v:Int)
 unfold IBlk
 rw [show ints (xs.set i v)=(ints xs).set i (v:Int) from by simp [ints,List.map_set]]
 exact this
def IRow (w:World)(g o:Nat)(xs:List Nat):Prop:=∃ ys,IBlk w g ys/\o+xs.length<=ys.length/\∀ i,i<xs.length->ys.getD (o+i) 0=xs.getD i 0
theorem IRow.at_ {w:World}{g o:Nat}{xs:List Nat}(h:IRow w g o xs)(i:Nat)(hi:i<xs.length):w.cell? ⟨g,o+i,none⟩=some (.int .i64 ((xs.getD i 0:Nat):Int)):=by
 obtain⟨ys,h1,h2,h3⟩:=h
 rw [h1.cell (o+i) (by omega),h3 i hi]
theorem IRow.whole {w:World}{g:Nat}{xs:List Nat}(h:IBlk w g xs):IRow w g 0 xs:=⟨xs,h,by omega,fun i _=>by rw [Nat.zero_add]⟩
theorem IRow.drop {w:World}{g o:Nat}{xs:List Nat}(h:IRow w g o xs)(k:Nat)(hk:k<=xs.length):IRow w g (o+k) (xs.drop k):=by
 obtain⟨ys,h1,h2,h3⟩:=h
 refine⟨ys,h1,by rw [List.length_drop];omega,fun i hi=>?_⟩
 rw [List.length_drop] at hi
 rw [Nat.add_assoc,h3 (k+i) (by omega),List.getD_eq_getElem?_getD,List.getD_eq_getElem?_getD,List.getElem?_drop]
theorem IRow.move {w w':World}{g o:Nat}{xs:List Nat}(h:IRow w g o xs)(hm:w'.heap[g]? = w.heap[g]?):IRow w' g o xs:=by
 obtain⟨ys,h1,h2,h3⟩:=h
 exact⟨ys,hm.trans h1,h2,h3⟩
theorem IRow.lt {w:World}{g o:Nat}{xs:List Nat}(h:IRow w g o xs):g<w.heap.size:=by
 obtain⟨ys,h1,h2,h3⟩:=h
 exact Blk.lt h1
theorem IRow.below {w w':World}{g o B:Nat}{xs:List Nat}(h:IRow w g o xs)(hb:Below B w w')(hg:g<B):IRow w' g o xs:=h.move (hb.block g hg)
theorem IRow.ne {w:World}{g o p:Nat}{t:TypeId}{cs:Array Value}{xs:List Nat}(h:IRow w g o xs)(hp:Blk w p t cs)(ht:3≠t):g≠p:=by
 obtain⟨ys,h1,h2,h3⟩:=h
 exact blk_ne h1 hp ht
theorem cut_int (g o n c k:Nat)(hk:k<=n)(hc:k<c)(W:World):(Instr.slice 93 (.slice (some ⟨g,o,none⟩) n c) (some (.int .i64 (k:Int))) none none).run Tryz.prog W=.ok (.slice (some ⟨g,o+k,none⟩) (n-k) (c-k)) W:=by
 obtain⟨i,hi,hz,hs,hb⟩:=info_parts info3i
 have hel:Tryz.prog.elem 93=3:=by simp [Program.elem,Tryz.underlying93]
 have hu:Tryz.prog.underlying 93=some (.slice (Tryz.prog.elem 93)):=by rw [hel];exact Tryz.underlying93
 rw [run_slice_l W 93 (some ⟨g,o,none⟩) n c hu .i64 (k:Int) (Int.natCast_nonneg _) (by omega),hel]
 have e:(⟨g,o,none⟩:Addr).add k=⟨g,o+k,none⟩:=by
  unfold Addr.add
  by_cases h:k=0
  ·subst h;simp
  ·simp [h]
 simp [sizeOf,typeInfo,hi,hs,sliced,Result.andThen,show ¬ c=k by omega,e]
def PolyAt (w:World)(q gf:Nat)(xs:List Nat):Prop:=∃ g o c,Blk w q 253 #[.pointer (some ⟨gf,0,none⟩),.slice (some ⟨g,o,none⟩) xs.length c]/\xs.length<=c/\IRow w g o xs/\xs≠[]
theorem PolyAt.below {w w':World}{q gf B:Nat}{xs:List Nat}(h:PolyAt w q gf xs)(hb:Below B w w')(hB:w.heap.size<=B):PolyAt w' q gf xs:=by
 obtain⟨g,o,c,h1,h2,h3,h4⟩:=h
 exact⟨g,o,c,h1.below hb (by have:=h1.lt;omega),h2,h3.below hb (by have:=h3.lt;omega),h4⟩
theorem PolyAt.upd {w w':World}{q gf p:Nat}{t:TypeId}{cs:Array Value}{xs:List Nat}(h:PolyAt w q gf xs)(hu:Upd w w' p)(hp:Blk w p t cs)(h3:3≠t)(h4:253≠t):PolyAt w' q gf xs:=by
 obtain⟨g,o,c,k1,k2,k3,k4⟩:=h
 exact⟨g,o,c,hu.blk k1 (blk_ne k1 hp h4),k2,k3.move (hu.block g k3.lt (k3.ne hp h3)),k4⟩
def NewPoly (w:World)(gf:Nat)(xs:List Nat)(e:Ending)(w':World):Prop:=∃ q,e=.returned (.tuple #[.pointer (some ⟨q,0,none⟩),.nilIface])/\w.heap.size<=q/\PolyAt w' q gf xs/\Below w.heap.size w w'
theorem newPoly_lead (w:World)(gf g o c:Nat)(xs:List Nat)(hr:IRow w g o xs)(hc:xs.length<=c)(h0:xs≠[])(h1:xs.length=1\/xs.getD 0 0≠0)(hl:xs.length<=100000) :
  Calls Tryz.prog 146 #[.pointer (some ⟨gf,0,none⟩),.slice (some ⟨g,o,none⟩) xs.length c] w (NewPoly w gf xs):=by
 have hpos:0<xs.length:=by cases xs with | nil=>exact absurd rfl h0 | cons _ _=>simp
 have k0:w.cell? ⟨g,o,none⟩=_:=hr.at_ 0 hpos
 obtain⟨n,hn⟩:∃ n,xs.length=n:=⟨_,rfl⟩
 obtain⟨x,hx⟩:∃ x,xs.getD 0 0=x:=⟨_,rfl⟩
 rw [hx] at k0 h1
 have ka:∀ ob,(w.alloc ob).cell? ⟨g,o,none⟩=some (.int .i64 (x:Int)):=fun ob=>pw_cell_below (below_alloc (Below.refl _ _) ob) k0
 rw [hn] at hc hl hpos h1
 have HR:=Aside0.mk hr
 have HN:=Aside0.mk hn
 have hfin:∀ w',w'=w.alloc (.cells #[.pointer (some ⟨gf,0,none⟩),.slice (some ⟨g,o,none⟩) n c] 253)->NewPoly w gf xs (.returned (.tuple #[.pointer (some ⟨w.heap.size,0,none⟩),.nilIface])) w':=by
  rintro w' rfl
  exact⟨_,rfl,Nat.le_refl _,⟨g,o,c,by rw [HN.out];exact Blk.new _ _ _,by rw [HN.out];exact hc,HR.out.below (below_alloc (Below.refl _ _) _) HR.out.lt,h0⟩,below_alloc (Below.refl _ _) _⟩
 have HF:=Aside0.mk hfin
 rw [hn]
 clear hr hn hx hfin
 by_cases h2:n=1
 ·subst h2
  clear h1
  go_enter Tryz.func146,Tryz.ntmps146
  go_wp2
  go_ret2
  exact HF.out _ rfl
 ·have h3:1<n:=by omega
  have h4:x≠0:=by rcases h1 with h | h;exact absurd h h2;exact h
  have h5:((x:Int)==0)=false:=by simpa using (fun h:(x:Int)=0=>h4 (by omega))
  clear h1 h2 h4
  go_enter Tryz.func146,Tryz.ntmps146
  go_wp2
  go_ret2
  exact HF.out _ rfl
theorem newPoly (w:World)(gf g o c:Nat)(xs:List Nat)(hr:IRow w g o xs)(hc:xs.length<=c)(h0:xs≠[])(hl:xs.length<=100000) :
  Calls Tryz.prog 146 #[.pointer (some ⟨gf,0,none⟩),.slice (some ⟨g,o,none⟩) xs.length c] w (NewPoly w gf (strip xs)):=by
 by_cases hlead:xs.length=1\/xs.getD 0 0≠0
 ·rw [strip_lead hlead h0]
  exact newPoly_lead w gf g o c xs hr hc h0 hlead hl
 ·have hpos:0<xs.length:=by cases xs with | nil=>exact absurd rfl h0 | cons _ _=>simp
  have hn1:1<xs.length:=by
   have:¬ xs.length=1:=fun h=>hlead (.inl h)
   omega
  have hz:xs.getD 0 0=0:=by
   apply Decidable.byContradiction
   exact fun h=>hlead (.inr h)
  have k0:w.cell? ⟨g,o,none⟩=_:=hr.at_ 0 hpos
  rw [hz] at k0
  have ka:∀ ob,(w.alloc ob).cell? ⟨g,o,none⟩=some (.int .i64 0):=fun ob=>pw_cell_below (below_alloc (Below.refl _ _) ob) k0
  obtain⟨n,hn⟩:∃ n,xs.length=n:=⟨_,rfl⟩
  rw [hn] at hc hl hpos hn1
  have HR:=Aside0.mk hr
  have HN:=Aside0.mk hn
  have HZ:=Aside0.mk hz
  have H0:=Aside0.mk h0
  rw [hn]
  clear hr hn hz h0 hlead k0
  go_enter Tryz.func146,Tryz.ntmps146
  go_wp2
  obtain⟨w1,hw1⟩:∃ w1,w1=w.alloc (.cells #[.pointer (some ⟨gf,0,none⟩),.slice none 0 0] 253):=⟨_,rfl⟩
  rw [<- hw1]
  obtain⟨B0,hh⟩:∃ B0,B0=w.heap.size:=⟨_,rfl⟩
  rw [<- hh]
  have HBlk:=Aside0.mk (show Blk w1 B0 253 #[.pointer (some ⟨gf,0,none⟩),.slice none 0 0] by rw [hw1,hh];exact Blk.new _ _ _)
  have HB1:=Aside0.mk (show Below B0 w w1 by rw [hw1,hh];exact below_alloc (Below.refl _ _) _)
  have HR1:=Aside0.mk (show IRow w1 g o xs by rw [hw1];exact HR.out.below (below_alloc (Below.refl _ _) _) HR.out.lt)
  have HW:=Aside0.mk hw1
  have HH:=Aside0.mk hh
  have f1:=HBlk.out.frozen 1
  have c1:w1.cell? ⟨B0,1,none⟩=some (.slice none 0 0):=HBlk.out.cell 1
  clear hw1 hh ka
  go_loop [8] (fun v=>∃ k:Nat,1<=k/\k<=n/\v=.int .i64 (k:Int)/\Aside0 (∀ i,i<k->xs.getD i 0=0)) (fun v=>(n-intOf v).toNat)
  case atStart=>exact⟨1,by omega,by omega,rfl,⟨fun i hi=>(show i=0 by omega) ▸ HZ.out⟩⟩
  case round=>
   obtain⟨k,hk1,hk,rfl,HK⟩:=hrel
   by_cases hlt:k<n
   ·have kc:=HR1.out.at_ k (by have:=HN.out;omega)
    obtain⟨x,hx⟩:∃ x,xs.getD k 0=x:=⟨_,rfl⟩
    rw [hx] at kc
    by_cases hx0:x=0
    ·subst hx0
     have HX:=Aside0.mk hx
     clear hx
     go_wp2
     go_round
     case rel=>exact⟨k+1,by omega,by omega,by go_num,⟨fun i hi=>by
      by_cases hik:i=k
      ·rw [hik];exact HX.out
      ·exact HK.out i (by omega)⟩⟩
     case measure=>simp [intOf];omega
    ·have hb:((x:Int)==0)=false:=by simpa using (fun h:(x:Int)=0=>hx0 (by omega))
     have HX:=Aside0.mk hx
     have HX0:=Aside0.mk hx0
     have hkn:((k:Int)==(n:Int))=false:=by simpa using (fun h:(k:Int)=(n:Int)=>by omega)
     have hrun:=cut_int g o n c k (by omega) (by omega)
     clear hx hx0
     go_wp2
     go_ret2
     have hst:=strip_drop (xs:=xs) (k:=k) (by have:=HN.out;omega) HK.out (by rw [HX.out];exact HX0.out)
     have hlen:(xs.drop k).length=n-k:=by rw [List.length_drop,HN.out]
     have hw':(w1.setCell ⟨B0,1,none⟩ (.slice (some ⟨g,o+k,none⟩) (n-k) (c-k)))=w.alloc (.cells #[.pointer (some ⟨gf,0,none⟩),.slice (some ⟨g,o+k,none⟩) (n-k) (c-k)] 253):=by
      rw [HW.out,HH.out,alloc_set];rfl
     rw [hw',hst,HH.out]
     refine⟨w.heap.size,rfl,Nat.le_refl _,⟨g,o+k,c-k,by rw [hlen];exact Blk.new _ _ _,by rw [hlen];omega,?_,?_⟩,below_alloc (Below.refl _ _) _⟩
     ·exact (HR.out.drop k (by have:=HN.out;omega)).below (below_alloc (Below.refl _ _) _) HR.out.lt
     ·intro h0
      rw [h0] at hlen
      simp at hlen
      omega
   ·have:k=n:=by omega
    subst this
    have c1a:∀ o,(w1.alloc o).cell? ⟨B0,1,none⟩=some (.slice none 0 0):=fun o=>(HBlk.out.alloc o).cell 1
    have f1a:∀ o,(w1.alloc o).frozen? ⟨B0,1,none⟩=false:=fun o=>(HBlk.out.alloc o).frozen 1
    go_wp2
    go_ret2
    have hst:=strip_none (xs:=xs) (fun i hi=>HK.out i (by have:=HN.out;omega))
    rw [hst]
    obtain⟨w2,hw2⟩:∃ w2,w2=w1.alloc (.cells #[.int .i64 0] 3):=⟨_,rfl⟩
    have hb2:Below B0 w w2:=by rw [hw2,HH.out];have h1:=HB1.out;rw [HH.out] at h1;exact below_alloc h1 _
    have hs1:w1.heap.size=B0+1:=by rw [HW.out,HH.out];simp
    have k2:Blk w2 B0 253 #[.pointer (some ⟨gf,0,none⟩),.slice none 0 0]:=by rw [hw2];exact HBlk.out.alloc _
    have k3:IBlk w2 w1.heap.size [0]:=by rw [hw2];exact Blk.new _ _ _
    rw [<- hw2]
    have hu:=Turn.set w2 B0 1 (.slice (some ⟨w1.heap.size,0,none⟩) 1 1)
    refine⟨B0,rfl,by rw [HH.out];exact Nat.le_refl _,⟨w1.heap.size,0,1,?_,Nat.le_refl _,?_,by simp⟩,?_⟩
    ·exact blk_set k2 1 _
    ·exact IRow.whole (hu.blk k3 (by omega))
    ·rw [<- HH.out]
     exact hb2.trans (hu.below (Nat.le_refl _))
theorem make_int (n:Nat)(h:n<=1000000000)(w:World):(Instr.makeSlice 93 (.int .i64 (n:Int)) (.int .i64 (n:Int))).run Tryz.prog w=.ok (.slice (some ⟨w.heap.size,0,none⟩) n n) (w.alloc (.cells (nums .i64 (ints (List.replicate n 0))).toArray 3)):=by
 obtain⟨i,hi,hz,hs,hb⟩:=info_parts info3i
 have:=run_make_rowN (P:=Tryz.prog) 93 3 i (.int .i64 0) Tryz.underlying93 hi hz .i64 .i64 n n (Nat.le_refl _) (by rw [hb];omega) (by omega) w
 have e:madeCells (Value.int .i64 0).cells (n*1)=(nums .i64 (ints (List.replicate n 0))).toArray:=by
  apply Array.toList_inj.1
  rw [Nat.mul_one]
  exact (toList_madeCells_one _ _).trans (by simp [nums,ints])
 rw [this,hs,e]
theorem getD_set_nat (xs:List Nat)(i j v:Nat)(hi:i<xs.length):(xs.set i v).getD j 0=if i=j then v else xs.getD j 0:=by
 rw [List.getD_eq_getElem?_getD,List.getD_eq_getElem?_getD,List.getElem?_set]
 by_cases e:i=j
 ·subst e;simp [hi]
 ·simp [e]
def expsTo (m p n i:Nat):List Nat:=(List.range i).map (gx m p)++List.replicate (n-i) 0
theorem expsTo_len (m p n i:Nat)(h:i<=n):(expsTo m p n i).length=n:=by unfold expsTo;simp;omega
theorem expsTo_set (m p n i:Nat)(h:i<n):(expsTo m p n i).set i (gx m p i)=expsTo m p n (i+1):=by
 unfold expsTo
 have hl:((List.range i).map (gx m p)).length=i:=by simp
 rw [List.set_append_right _ _ (by omega),hl,Nat.sub_self,show n-i=(n-(i+1))+1 by omega,List.replicate_succ,List.set_cons_zero,List.range_succ,List.map_append,List.append_assoc]
 rfl
def exps (m p:Nat):List Nat:=(List.range (2 ^ m)).map (gx m p)
theorem expsTo_all (m p:Nat):expsTo m p (2 ^ m) (2 ^ m)=exps m p:=by unfold expsTo exps;simp
theorem exps_len (m p:Nat):(exps m p).length=2 ^ m:=by simp [exps]
theorem exps_get (m p i:Nat)(h:i<2 ^ m):(exps m p).getD i 0=gx m p i:=by
 unfold exps
 rw [List.getD_eq_getElem?_getD,List.getElem?_map,List.getElem?_range h]
 rfl
structure Logs (m p n:Nat)(ls:List Nat):Prop where
 len:ls.length=2 ^ m
 log:∀ i,i<n->ls.getD (gx m p i) 0=i
theorem Logs.step {m p n:Nat}{ls:List Nat}(F:Fld m p)(hP:Prim m p)(h:Logs m p n ls)(hn:n<2 ^ m-1):Logs m p (n+1) (ls.set (gx m p n) n):=by
 refine⟨by rw [List.length_set,h.len],fun i hi=>?_⟩
 rw [getD_set_nat _ _ _ _ (by rw [h.len];exact gx_lt F n)]
 by_cases e:i=n
 ·subst e;rw [if_pos rfl]
 ·rw [if_neg,h.log i (by omega)]
  intro he
  exact e (gx_inj F hP i n (by omega) hn he.symm)
def GFAt (w:World)(gf m p b:Nat):Prop:=∃ ge gl zp op ls,Blk w gf 233 #[.slice (some ⟨ge,0,none⟩) (2 ^ m) (2 ^ m),.slice (some ⟨gl,0,none⟩) (2 ^ m) (2 ^ m),.pointer (some ⟨zp,0,none⟩),.pointer (some ⟨op,0,none⟩),.int .i64 ((2 ^ m:Nat):Int),.int .i64 (p:Int),.int .i64 (b:Int)]/\
 IBlk w ge (exps m p)/\IBlk w gl ls/\Logs m p (2 ^ m-1) ls/\PolyAt w zp gf [0]/\PolyAt w op gf [1]
theorem GFAt.below {w w':World}{gf m p b B:Nat}(h:GFAt w gf m p b)(hb:Below B w w')(hB:w.heap.size<=B):GFAt w' gf m p b:=by
 obtain⟨ge,gl,zp,op,ls,h1,h2,h3,h4,h5,h6⟩:=h
 exact⟨ge,gl,zp,op,ls,h1.below hb (by have:=h1.lt;omega),Blk.below h2 hb (by have:=Blk.lt h2;omega),Blk.below h3 hb (by have:=Blk.lt h3;omega),h4,h5.below hb hB,h6.below hb hB⟩
theorem double_small {m p x:Nat}(F:Fld m p)(hx:x<2 ^ m)(h:2*x<2 ^ m):gl m p x=2*x:=by
 unfold gl
 have hb:x.testBit (m-1)=false:=by
  apply Nat.testBit_lt_two_pow
  have:2 ^ m=2*2 ^ (m-1):=by rw [<- Nat.pow_succ'];congr 1;have:=F.one;omega
  omega
 rw [hb,if_neg (by simp),Nat.xor_zero]
theorem double_great {m p x:Nat}(F:Fld m p)(hx:x<2 ^ m)(h:2 ^ m<=2*x):gl m p x=2*x ^^^ p:=by
 unfold gl
 have e:2 ^ m=2*2 ^ (m-1):=by rw [<- Nat.pow_succ'];congr 1;have:=F.one;omega
 have hb:x.testBit (m-1)=true:=by
  rw [Nat.testBit_eq_decide_div_mod_eq,decide_eq_true_eq]
  have h2:x/2 ^ (m-1)=1:=by
   apply Nat.div_eq_of_lt_le<;>omega
  rw [h2]
 rw [hb,if_pos rfl]
theorem i64_xor_nat (a b:Nat)(ha:a<4294967296)(hb:b<4294967296):Go.bits .xor .i64 (a:Int) (b:Int)=((a ^^^ b:Nat):Int):=by
 have ha':a%2 ^ IntKind.i64.bits=a:=Nat.mod_eq_of_lt (Nat.lt_of_lt_of_le ha (by decide))
 have hb':b%2 ^ IntKind.i64.bits=b:=Nat.mod_eq_of_lt (Nat.lt_of_lt_of_le hb (by decide))
 have hx:a ^^^ b<2 ^ 32:=Nat.xor_lt_two_pow ha hb
 simp only [Go.bits,BitVec.ofInt_natCast,BitVec.toNat_xor,BitVec.toNat_ofNat,ha',hb']
 rw [IntKind.wrap_i64]
 omega
set_option maxHeartbeats 4000000 in
theorem newGF (w:World)(m p b:Nat)(F:Fld m p)(hP:Prim m p)(hm:m<=12)(hb:b<=1) :
  Calls Tryz.prog 124 #[.int .i64 (p:Int),.int .i64 ((2 ^ m:Nat):Int),.int .i64 (b:Int)] w fun e w'=>∃ gf,e=.returned (.pointer (some ⟨gf,0,none⟩))/\w.heap.size<=gf/\GFAt w' gf m p b/\Below w.heap.size w w':=by
 obtain⟨N,hN⟩:∃ N,2 ^ m=N:=⟨_,rfl⟩
 have hN1:N<=4096:=by rw [<- hN];exact Nat.le_trans (Nat.pow_le_pow_right (by omega) hm) (by decide)
 have hN2:2<=N:=by rw [<- hN];exact Nat.le_trans (by decide:2<=2 ^ 1) (Nat.pow_le_pow_right (by omega) F.one)
 have hp1:p<=8192:=by have:=F.hi;rw [Nat.pow_succ,hN] at this;omega
 rw [hN]
 have HN:=Aside0.mk hN
 have HF:=Aside0.mk F
 have HP:=Aside0.mk hP
 clear hN F hP
 have mk1:=make_int N (by omega)
 go_enter Tryz.func124,Tryz.ntmps124
 go_wp2
 obtain⟨B0,hB0⟩:∃ B0,B0=w.heap.size:=⟨_,rfl⟩
 rw [<- hB0]
 obtain⟨w2,hw2⟩:∃ w2,w2=((w.alloc (.cells #[.slice none 0 0,.slice none 0 0,.pointer none,.pointer none,.int .i64 (N:Int),.int .i64 (p:Int),.int .i64 (b:Int)] 233)).alloc (.cells (nums .i64 (ints (List.replicate N 0))).toArray 3)).alloc (.cells (nums .i64 (ints (List.replicate N 0))).toArray 3):=⟨_,rfl⟩
 rw [<- hw2]
 have HBG:=Aside0.mk (show Blk w2 B0 233 #[.slice none 0 0,.slice none 0 0,.pointer none,.pointer none,.int .i64 (N:Int),.int .i64 (p:Int),.int .i64 (b:Int)] by rw [hw2,hB0];exact ((Blk.new w _ _).alloc _).alloc _)
 have HBE:=Aside0.mk (show IBlk w2 (B0+1) (List.replicate N 0) by
  rw [hw2,hB0]
  have h:=Blk.new (w.alloc (.cells #[.slice none 0 0,.slice none 0 0,.pointer none,.pointer none,.int .i64 (N:Int),.int .i64 (p:Int),.int .i64 (b:Int)] 233)) 3 (nums .i64 (ints (List.replicate N 0))).toArray
  have h2:=h.alloc (.cells (nums .i64 (ints (List.replicate N 0))).toArray 3)
  unfold IBlk
  simpa using h2)
 have HBL:=Aside0.mk (show IBlk w2 (B0+1+1) (List.replicate N 0) by
  rw [hw2,hB0]
  have h:=Blk.new ((w.alloc (.cells #[.slice none 0 0,.slice none 0 0,.pointer none,.pointer none,.int .i64 (N:Int),.int .i64 (p:Int),.int .i64 (b:Int)] 233)).alloc (.cells (nums .i64 (ints (List.replicate N 0))).toArray 3)) 3 (nums .i64 (ints (List.replicate N 0))).toArray
  unfold IBlk
  simpa using h)
 have HBW:=Aside0.mk (show Below B0 w w2 by rw [hw2,hB0];exact below_alloc (below_alloc (below_alloc (Below.refl _ _) _) _) _)
 have HB0:=Aside0.mk hB0
 clear hw2 hB0 mk1
 go_loopw [10,11] (fun vx vi wr=>∃ i x:Nat,i<=N/\vi=.int .i64 (i:Int)/\vx=.int .i64 (x:Int)/\x<N/\Aside0 (x=gx m p i)/\Aside0 (IBlk wr (B0+1) (expsTo m p N i))/\Aside0 (Turn w2 wr (B0+1))) (fun _ vi _=>(N-intOf vi).toNat)
 case atStart=>exact⟨0,1,by omega,rfl,rfl,by omega,⟨rfl⟩,⟨by have:=HBE.out;exact this⟩,⟨Turn.refl _ _⟩⟩
 case round=>
  obtain⟨i,x,hi,rfl,rfl,hx,HX,HE,HT⟩:=hrel
  by_cases hlt:i<N
  ·have hel:=expsTo_len m p N i (by omega)
   have k1:=HE.out.cell i (by omega)
   have k2:wr.frozen? ⟨B0+1,i,none⟩=false:=Blk.frozen HE.out i
   obtain⟨y,hy⟩:∃ y,(expsTo m p N i).getD i 0=y:=⟨_,rfl⟩
   rw [hy] at k1
   have hgl:=gl_lt HF.out x (by rw [HN.out];omega)
   have hsucc:gl m p x=gx m p (i+1):=by rw [gx_succ,<- HX.out]
   have hset:IBlk (wr.setCell ⟨B0+1,i,none⟩ (.int .i64 (x:Int))) (B0+1) (expsTo m p N (i+1)):=by
    rw [<- expsTo_set m p N i hlt,<- HX.out]
    exact HE.out.set i x
   have hT2:Turn w2 (wr.setCell ⟨B0+1,i,none⟩ (.int .i64 (x:Int))) (B0+1):=HT.out.trans (Turn.set _ _ _ _)
   rw [HN.out] at hgl
   obtain⟨z,hz⟩:∃ z,gl m p x=z:=⟨_,rfl⟩
   rw [hz] at hgl hsucc
   have HS:=Aside0.mk hsucc
   have HSET:=Aside0.mk hset
   have HT2:=Aside0.mk hT2
   have HZ:=Aside0.mk hz
   clear hel hy hsucc hz hset hT2
   by_cases hsm:2*x<N
   ·have hzx:2*x=z:=by rw [<- HZ.out,double_small HF.out (by rw [HN.out];omega) (by rw [HN.out];omega)]
    have hzi:(x:Int)*2=(z:Int):=by omega
    have hzb:decide ((z:Int)≥(N:Int))=false:=decide_eq_false (by omega)
    clear hzx
    go_wp2
    go_roundw
    case rel=>exact⟨i+1,z,by omega,by go_num,rfl,hgl,HS,HSET,HT2⟩
    case measure=>simp [intOf];omega
   ·have hzx:2*x ^^^ p=z:=by rw [<- HZ.out,double_great HF.out (by rw [HN.out];omega) (by rw [HN.out];omega)]
    have hxr:Go.bits .xor .i64 ((x:Int)*2) (p:Int)=(z:Int):=by
     have:=i64_xor_nat (2*x) p (by omega) (by omega)
     rw [hzx] at this
     rw [<- this]
     congr 1
     omega
    have had:Go.bits .and .i64 (z:Int) ((N:Int)-1)=(z:Int):=by
     have:=i64_and_nat z (N-1) (by omega) (by omega)
     rw [show ((N-1:Nat):Int)=(N:Int)-1 by omega] at this
     rw [this,<- HN.out,Nat.and_two_pow_sub_one_eq_mod,HN.out,Nat.mod_eq_of_lt hgl]
    clear hzx
    go_wp2
    go_roundw
    case rel=>exact⟨i+1,z,by omega,by go_num,rfl,hgl,HS,HSET,HT2⟩
    case measure=>simp [intOf];omega
  ·have:i=N:=by omega
   subst this
   go_wp2
   have HEall:=Aside0.mk (show IBlk wr (B0+1) (exps m p) by have:=HE.out;rw [<- HN.out,expsTo_all] at this;exact this)
   have HBL2:=Aside0.mk (show IBlk wr (B0+1+1) (List.replicate i 0) from HT.out.blk HBL.out (by omega))
   obtain⟨w3,rfl⟩:∃ w3:World,w3=wr:=⟨_,rfl⟩
   go_loopw [12] (fun vi w4=>∃ j:Nat,∃ ls,j<=i-1/\vi=.int .i64 (j:Int)/\Aside0 (IBlk w4 (B0+1+1) ls)/\Aside0 (Logs m p j ls)/\Aside0 (Turn w3 w4 (B0+1+1))) (fun vi _=>(i-intOf vi).toNat)
   case atStart=>exact⟨0,_,by omega,rfl,HBL2,⟨⟨by rw [List.length_replicate,HN.out],fun _ h=>by omega⟩⟩,⟨Turn.refl _ _⟩⟩
   case round=>
    obtain⟨j,ls,hj,rfl,HL,HLG,HT4⟩:=hrel
    by_cases hltj:j<i-1
    ·have hge:IBlk wr (B0+1) (exps m p):=HT4.out.blk HEall.out (by omega)
     have k1:=hge.cell j (by rw [exps_len,HN.out];omega)
     rw [exps_get m p j (by rw [HN.out];omega)] at k1
     have hgl:=gx_lt HF.out j
     rw [HN.out] at hgl
     obtain⟨x,hx⟩:∃ x,gx m p j=x:=⟨_,rfl⟩
     rw [hx] at k1 hgl
     have k2:=HL.out.cell x (by rw [HLG.out.len,HN.out];omega)
     have k3:wr.frozen? ⟨B0+1+1,x,none⟩=false:=Blk.frozen HL.out x
     have HSL:=Aside0.mk (HLG.out.step HF.out HP.out (by rw [HN.out];omega))
     rw [hx] at HSL
     have HSET:=Aside0.mk (HL.out.set x j)
     have HT5:=Aside0.mk (HT4.out.trans (Turn.set wr (B0+1+1) x (.int .i64 (j:Int))))
     clear hge hx
     go_wp2
     go_roundw
     case rel=>exact⟨j+1,_,by omega,by go_num,HSET,HSL,HT5⟩
     case measure=>simp [intOf];omega
    ·have:j=i-1:=by omega
     subst this
     have hwrap:((i-1:Nat):Int)=(i:Int)-1:=by omega
     have hbg:Blk wr B0 233 #[.slice none 0 0,.slice none 0 0,.pointer none,.pointer none,.int .i64 (i:Int),.int .i64 (p:Int),.int .i64 (b:Int)]:=HT4.out.blk (HT.out.blk HBG.out (by omega)) (by omega)
     have c0:=hbg.cell 0
     have c1:=hbg.cell 1
     have f0:=hbg.frozen 0
     have f1:=hbg.frozen 1
     have HBG5:=Aside0.mk hbg
     clear hbg
     go_wp2_with fail
     obtain⟨w5,hw5⟩:∃ w5,w5=(wr.setCell ⟨B0,0,none⟩ (.slice (some ⟨B0+1,0,none⟩) i i)).setCell ⟨B0,1,none⟩ (.slice (some ⟨B0+1+1,0,none⟩) i i):=⟨_,rfl⟩
     have HT5:=Aside0.mk (show Turn wr w5 B0 by rw [hw5];exact (Turn.set _ _ _ _).trans (Turn.set _ _ _ _))
     have HG5:=Aside0.mk (show Blk w5 B0 233 #[.slice (some ⟨B0+1,0,none⟩) i i,.slice (some ⟨B0+1+1,0,none⟩) i i,.pointer none,.pointer none,.int .i64 (i:Int),.int .i64 (p:Int),.int .i64 (b:Int)] by
      rw [hw5]
      exact blk_set (blk_set HBG5.out 0 _) 1 _)
     rw [<- hw5]
     have hsz:wr.heap.size=w5.heap.size:=HT5.out.size.symm
     rw [hsz]
     clear hw5 hsz c0 c1 f0 f1
     have hb6:=Aside0.mk (below_alloc (Below.refl w5.heap.size w5) (.cells #[.int .i64 0] 3))
     refine (newPoly _ B0 w5.heap.size 0 1 [0] (IRow.whole (show IBlk (w5.alloc (.cells (nums .i64 (ints [0])).toArray 3)) w5.heap.size [0] from Blk.new w5 3 (nums .i64 (ints [0])).toArray)) (by simp) (by simp) (by simp)).mono ?_
     rintro e w7 ⟨zp,rfl,hzp,hPZ,hB7⟩
     have hs6:w5.heap.size+1=(w5.alloc (.cells #[.int .i64 0] 3)).heap.size:=by simp
     have HB57:=Aside0.mk (show Below w5.heap.size w5 w7 from hb6.out.trans (hB7.mono (by simp)))
     have hG7:Blk w7 B0 233 #[.slice (some ⟨B0+1,0,none⟩) i i,.slice (some ⟨B0+1+1,0,none⟩) i i,.pointer none,.pointer none,.int .i64 (i:Int),.int .i64 (p:Int),.int .i64 (b:Int)]:=HG5.out.below HB57.out HG5.out.lt
     have c2:=hG7.cell 2
     have f2:=hG7.frozen 2
     have hzp':w5.heap.size<zp:=by have:(w5.alloc (.cells #[.int .i64 0] 3)).heap.size<=zp:=hzp;omega
     have HPZ:=Aside0.mk hPZ
     have HG7:=Aside0.mk hG7
     have HZP:=Aside0.mk hzp'
     clear hPZ hB7 hzp hs6 hG7 hzp'
     go_wp2_with fail
     obtain⟨w8,hw8⟩:∃ w8,w8=w7.setCell ⟨B0,2,none⟩ (.pointer (some ⟨zp,0,none⟩)):=⟨_,rfl⟩
     have HT8:=Aside0.mk (show Turn w7 w8 B0 by rw [hw8];exact Turn.set _ _ _ _)
     have HG8:=Aside0.mk (show Blk w8 B0 233 #[.slice (some ⟨B0+1,0,none⟩) i i,.slice (some ⟨B0+1+1,0,none⟩) i i,.pointer (some ⟨zp,0,none⟩),.pointer none,.int .i64 (i:Int),.int .i64 (p:Int),.int .i64 (b:Int)] by
      rw [hw8]
      exact blk_set HG7.out 2 _)
     rw [<- hw8]
     have hsz:w7.heap.size=w8.heap.size:=HT8.out.size.symm
     rw [hsz]
     clear hw8 hsz c2 f2
     have hb9:=Aside0.mk (below_alloc (Below.refl w8.heap.size w8) (.cells #[.int .i64 1] 3))
     refine (newPoly _ B0 w8.heap.size 0 1 [1] (IRow.whole (show IBlk (w8.alloc (.cells (nums .i64 (ints [1])).toArray 3)) w8.heap.size [1] from Blk.new w8 3 (nums .i64 (ints [1])).toArray)) (by simp) (by simp) (by simp)).mono ?_
     rintro e w9 ⟨op,rfl,hop,hPO,hB9⟩
     have hs9:w8.heap.size+1=(w8.alloc (.cells #[.int .i64 1] 3)).heap.size:=by simp
     have HB89:=Aside0.mk (show Below w8.heap.size w8 w9 from hb9.out.trans (hB9.mono (by simp)))
     have hG9:Blk w9 B0 233 #[.slice (some ⟨B0+1,0,none⟩) i i,.slice (some ⟨B0+1+1,0,none⟩) i i,.pointer (some ⟨zp,0,none⟩),.pointer none,.int .i64 (i:Int),.int .i64 (p:Int),.int .i64 (b:Int)]:=HG8.out.below HB89.out HG8.out.lt
     have c3:=hG9.cell 3
     have f3:=hG9.frozen 3
     have hop':w8.heap.size<op:=by have:(w8.alloc (.cells #[.int .i64 1] 3)).heap.size<=op:=hop;omega
     have HPO:=Aside0.mk hPO
     have HG9:=Aside0.mk hG9
     have HOP:=Aside0.mk hop'
     clear hPO hB9 hop hs9 hG9 hop'
     go_wp2_with fail
     go_ret
     obtain⟨wz,hwz⟩:∃ wz,wz=w9.setCell ⟨B0,3,none⟩ (.pointer (some ⟨op,0,none⟩)):=⟨_,rfl⟩
     have hTz:Turn w9 wz B0:=by rw [hwz];exact Turn.set _ _ _ _
     have hGz:Blk wz B0 233 #[.slice (some ⟨B0+1,0,none⟩) i i,.slice (some ⟨B0+1+1,0,none⟩) i i,.pointer (some ⟨zp,0,none⟩),.pointer (some ⟨op,0,none⟩),.int .i64 (i:Int),.int .i64 (p:Int),.int .i64 (b:Int)]:=by
      rw [hwz]
      exact blk_set HG9.out 3 _
     rw [<- hwz]
     have sB:B0=w.heap.size:=HB0.out
     have s2:wr.heap.size=w3.heap.size:=HT4.out.size
     have s5:w5.heap.size=wr.heap.size:=HT5.out.size
     have s57:w5.heap.size<=w7.heap.size:=HB57.out.size
     have s78:w8.heap.size=w7.heap.size:=HT8.out.size
     have s89:w8.heap.size<=w9.heap.size:=HB89.out.size
     have hT9:=(Turn.set w9 B0 3 (.pointer (some ⟨op,0,none⟩)))
     rw [<- hwz] at hT9
     have lBE:B0+1<wr.heap.size:=Blk.lt (HT4.out.blk HEall.out (by omega):IBlk wr (B0+1) (exps m p))
     have lBL:B0+1+1<wr.heap.size:=Blk.lt HL.out
     have kE:IBlk wz (B0+1) (exps m p):=by
      have a4:IBlk wr (B0+1) (exps m p):=HT4.out.blk HEall.out (by omega)
      have a5:IBlk w5 (B0+1) (exps m p):=HT5.out.blk a4 (by omega)
      have a7:IBlk w7 (B0+1) (exps m p):=Blk.below a5 HB57.out (Blk.lt a5)
      have a8:IBlk w8 (B0+1) (exps m p):=HT8.out.blk a7 (by omega)
      have a9:IBlk w9 (B0+1) (exps m p):=Blk.below a8 HB89.out (Blk.lt a8)
      exact hT9.blk a9 (by omega)
     have kL:IBlk wz (B0+1+1) ls:=by
      have a5:IBlk w5 (B0+1+1) ls:=HT5.out.blk HL.out (by omega)
      have a7:IBlk w7 (B0+1+1) ls:=Blk.below a5 HB57.out (Blk.lt a5)
      have a8:IBlk w8 (B0+1+1) ls:=HT8.out.blk a7 (by omega)
      have a9:IBlk w9 (B0+1+1) ls:=Blk.below a8 HB89.out (Blk.lt a8)
      exact hT9.blk a9 (by omega)
     have kZ:PolyAt wz zp B0 [0]:=by
      have a7:PolyAt w7 zp B0 [0]:=HPZ.out
      have a8:PolyAt w8 zp B0 [0]:=a7.upd (Upd.of_turn HT8.out) HG7.out (by decide) (by decide)
      have a9:PolyAt w9 zp B0 [0]:=a8.below HB89.out (Nat.le_refl _)
      exact a9.upd (Upd.of_turn hT9) HG9.out (by decide) (by decide)
     have kO:PolyAt wz op B0 [1]:=by
      have a9:PolyAt w9 op B0 [1]:=HPO.out
      exact a9.upd (Upd.of_turn hT9) HG9.out (by decide) (by decide)
     refine⟨B0,rfl,by omega,⟨B0+1,B0+1+1,zp,op,ls,?_,kE,kL,?_,kZ,kO⟩,?_⟩
     ·rw [HN.out]
      exact hGz
     ·rw [HN.out]
      exact HLG.out
     ·rw [<- sB]
      have b3:Below B0 w w3:=HBW.out.trans (HT.out.below (by omega))
      have b4:Below B0 w wr:=b3.trans (HT4.out.below (by omega))
      have b5:Below B0 w w5:=b4.trans (HT5.out.below (by omega))
      have b7:Below B0 w w7:=b5.trans (HB57.out.mono (by omega))
      have b8:Below B0 w w8:=b7.trans (HT8.out.below (by omega))
      have b9:Below B0 w w9:=b8.trans (HB89.out.mono (by omega))
      exact b9.trans (hT9.below (by omega))
theorem gfQR (w:World):Calls Tryz.prog 79 #[] w fun e w'=>∃ gf,e=.returned (.pointer (some ⟨gf,0,none⟩))/\w.heap.size<=gf/\GFAt w' gf 8 285 0/\Below w.heap.size w w':=by
 have k:Calls Tryz.prog 124 #[.int .i64 285,.int .i64 256,.int .i64 0] w _:=newGF w 8 285 0 fQR pQR (by omega) (by omega)
 go_enter Tryz.func79,Tryz.ntmps79
 go_wp2_with (go_at_call 124;refine k.mono ?_;rintro e w' ⟨gf,rfl,h1,h2,h3⟩)
 have H2:=Aside0.mk h2
 clear h2
 go_ret
 exact⟨gf,rfl,h1,H2.out,h3⟩
theorem newRS (w:World)(gf:Nat):Calls Tryz.prog 78 #[.pointer (some ⟨gf,0,none⟩)] w fun e w'=>e=.returned (.pointer (some ⟨w.heap.size,0,none⟩))/\w'=w.alloc (.cells #[.pointer (some ⟨gf,0,none⟩)] 196):=by
 go_enter Tryz.func78,Tryz.ntmps78
 go_wp2
 go_ret
 exact⟨rfl,rfl⟩
def DecAt (w:World)(d rs gf:Nat):Prop:=Blk w d 137 #[.pointer (some ⟨rs,0,none⟩)]/\Blk w rs 196 #[.pointer (some ⟨gf,0,none⟩)]/\GFAt w gf 8 285 0
theorem DecAt.below {w w':World}{d rs gf B:Nat}(h:DecAt w d rs gf)(hb:Below B w w')(hB:w.heap.size<=B):DecAt w' d rs gf :=
 ⟨h.1.below hb (by have:=h.1.lt;omega),h.2.1.below hb (by have:=h.2.1.lt;omega),h.2.2.below hb hB⟩
theorem newDec (w:World):Calls Tryz.prog 36 #[] w fun e w'=>∃ d rs gf,e=.returned (.pointer (some ⟨d,0,none⟩))/\w.heap.size<=gf/\w.heap.size<=rs/\w.heap.size<=d/\DecAt w' d rs gf/\Below w.heap.size w w':=by
 go_enter Tryz.func36,Tryz.ntmps36
 go_wp2_with (first | (go_at_call 79;refine (gfQR _).mono ?_;rintro e w' ⟨gf,rfl,h1,h2,h3⟩;have H2:=Aside0.mk h2;have H3:=Aside0.mk h3;clear h2 h3) | (go_at_call 78;refine (newRS _ gf).mono ?_;rintro e w'' ⟨rfl,rfl⟩))
 go_ret
 have hs:=H3.out.size
 refine⟨w'.heap.size+1,w'.heap.size,gf,rfl,h1,by omega,by omega,⟨?_,(Blk.new w' 196 _).alloc _,?_⟩,below_alloc (below_alloc H3.out _) _⟩
 ·simpa using Blk.new (w'.alloc (.cells #[.pointer (some ⟨gf,0,none⟩)] 196)) 137 #[.pointer (some ⟨w'.heap.size,0,none⟩)]
 ·exact H2.out.below (below_alloc (below_alloc (Below.refl _ _) _) _) (Nat.le_refl _)
structure Square (rows:List (List Bool))(n:Nat):Prop where
 len:rows.length=n
 head:(rows.getD 0 []).length=n
 row:∀ y,y<n->n<=(rows.getD y []).length/\(rows.getD y []).length<=1000000
end Go.Proofs.YtgccjgpdjkhpdaaGreat.B
