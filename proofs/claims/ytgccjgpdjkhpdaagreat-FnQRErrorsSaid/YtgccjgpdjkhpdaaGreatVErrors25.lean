import Derived.Outline
import Derived.Test.YtgccjgpdjkhpdaaGreatVErrors22
open Go.Proofs.YtgccjgpdjkhpdaaGreatW.PrintWords.Aside0 renaming mk→Mw
open List renaming length_append→Mx,replicate→My,getD_eq_getElem?_getD→Mz,append_assoc→MA
/-! Own texts of this claim, part 25. -/
namespace Go.Proofs.YtgccjgpdjkhpdaaGreat.B
open Go.RowKit Go.Proofs.YtgccjgpdjkhpdaaGreatW.PrintWords Go.Proofs.YtgccjgpdjkhpdaaGreatW.PrintLast Go.Proofs.YtgccjgpdjkhpdaaGreatW.PrintMore
set_option linter.unusedVariables false
set_option linter.unusedSimpArgs false
theorem eM {w:World}{base n size:Nat}{e:TypeId}{v:Value}{xs:List Value}(h:w.ownsRow base e size v n xs)(k:Nat)(hk:v.ownBlock=some k):∃ cs,Blk w k e cs:=by
 rcases h.2 with⟨rfl,_⟩ | ⟨g,cap,cur,rfl,hb,hh,_⟩
 ·simp [Value.ownBlock] at hk
 have:g=k:=by simpa [Value.ownBlock] using hk
 subst this;exact⟨cur,hh⟩
theorem oG {w:World}{base n size n' size' base':Nat}{e e':TypeId}{v v':Value}{xs xs':List Value}(h:w.ownsRow base e size v n xs)(h':w.ownsRow base' e' size' v' n' xs')(hne:e≠e')(k:Nat)(hk:v.ownBlock=some k):some k≠v'.ownBlock:=by
 obtain⟨cs,hb⟩:=eM h k hk;exact own_ne h' hb (Ne.symm hne)
def jU (qs:List Nat)(segs:List (List Int)):List Value:=List.zipWith (fun q t=>.slice (some ⟨q,0,none⟩) t.length t.length) qs segs
structure im (w:World)(base:Nat)(vs v:Value)(qs:List Nat)(segs:List (List Int)):Prop where
 len:qs.length=segs.length
 own:w.ownsRow base 26 1 vs segs.length (jU qs segs)
 blk:∀ i,i<segs.length->base<=qs.getD i 0/\Blk w (qs.getD i 0) 5 (ac .u8 (segs.getD i [])).toArray/\some (qs.getD i 0)≠v.ownBlock
theorem im.grow {w w':World}{base s n:Nat}{vs v v':Value}{qs:List Nat}{segs:List (List Int)}{cs:Array Value}{xs:List Value}(h:im w base vs v qs segs)(hv:w.ownsRow base 5 1 v n xs)(hs:Blk w s 226 cs)(k:cT w w' s v v'):im w' base vs v' qs segs:=by
 refine⟨h.len,ei h.own fun q hq=>?_,fun i hi=>?_⟩;rotate_left
 ·obtain⟨h1,h2,h3⟩:=h.blk i hi;obtain⟨h4,h5⟩:=k.blk h2 (bd h2 hs (by decide)) h3;exact⟨h1,h4,h5⟩
 obtain⟨cq,hb⟩:=eM h.own q hq;exact k.block q hb.lt (bd hb hs (by decide)) (oG h.own hv (by decide) q hq)
def F1 (w0:World)(base s g:Nat)(bs:List Nat)(pos:Nat)(ys:List Int)(segs:List (List Int))(e:Ending)(w':World):Prop :=
 ∃ v' vs' qs',e=.returned (.tuple #[v',vs',.nilIface])/\w'.ownsRow base 5 1 v' ys.length (ac .u8 ys)/\im w' base vs' v' qs' segs/\ca w' s g bs pos/\Below base w0 w'/\base<=w'.heap.size
theorem yY (bs:List Nat)(pos n:Nat):(dV bs pos n).length=n:=by simp [dV]
def iK (bs:List Nat)(pos n i:Nat):List Int:=dV bs pos i++My (n-i) 0
theorem F2 (bs:List Nat)(pos n i:Nat)(h:i<=n):(iK bs pos n i).length=n:=by simp [iK,dV];omega
theorem F3 (bs:List Nat)(pos n i:Nat)(h:i<n):(iK bs pos n i).set i (aq bs (pos+8*i) 8:Int)=iK bs pos n (i+1):=by
 unfold iK;have hl:=yY bs pos i;rw [List.set_append_right _ _ (by omega),hl,Nat.sub_self,show n-i=(n-(i+1))+1 by omega,List.replicate_succ,List.set_cons_zero];simp [dV,List.range_succ]
theorem F4 (bs:List Nat)(pos n:Nat):iK bs pos n n=dV bs pos n:=by simp [iK]
theorem F5 (bs:List Nat)(pos n:Nat):iK bs pos n 0=My n 0:=by simp [iK,dV]
theorem aC.turn {w x y:World}{s:Nat}(h:aC w x s)(k:af x y s):aC w y s:=⟨k.os.trans h.os,k.tape.trans h.tape,k.output.trans h.output,by rw [k.size];exact h.size,fun i hi h1=>(k.block i h1).trans (h.block i hi h1)⟩
theorem aC.turn_new {w x y:World}{s q:Nat}(h:aC w x s)(k:af x y q)(hq:w.heap.size<=q):aC w y s:=⟨k.os.trans h.os,k.tape.trans h.tape,k.output.trans h.output,by rw [k.size];exact h.size,fun i hi h1=>(k.block i (by omega)).trans (h.block i hi h1)⟩
theorem F6 (qs:List Nat)(segs:List (List Int))(q:Nat)(t:List Int)(h:qs.length=segs.length):jU (qs++[q]) (segs++[t])=jU qs segs++[.slice (some ⟨q,0,none⟩) t.length t.length]:=by
 unfold jU;rw [List.zipWith_append h];rfl
theorem F7 (l:List Nat)(x d i:Nat):(l++[x]).getD i d=if i<l.length then l.getD i d else if i=l.length then x else d:=by
 rw [Mz,Mz];by_cases h:i<l.length
 ·rw [List.getElem?_append_left h,if_pos h]
 rw [if_neg h,List.getElem?_append_right (by omega)];by_cases h2:i=l.length
 ·subst h2;simp
 rw [if_neg h2,List.getElem?_eq_none (by simp;omega)];rfl
theorem F8 (l:List (List Int))(x:List Int)(i:Nat):(l++[x]).getD i []=if i<l.length then l.getD i [] else if i=l.length then x else []:=by
 rw [Mz,Mz];by_cases h:i<l.length
 ·rw [List.getElem?_append_left h,if_pos h]
 rw [if_neg h,List.getElem?_append_right (by omega)];by_cases h2:i=l.length
 ·subst h2;simp
 rw [if_neg h2,List.getElem?_eq_none (by simp;omega)];rfl
theorem F9 {w:World}{q:Nat}{xs:List Int}(h:Blk w q 5 (ac .u8 xs).toArray)(hl:xs.length<=1000000):cA w .u8 (some ⟨q,0,none⟩) xs.length xs:=by
 refine⟨rfl,by omega,fun _=>⟨_,rfl,fun j hj=>?_⟩⟩;rw [iu];have:=h.ucell (j:Int) (by omega) (by omega);simpa [rd] using this
theorem rp (qs:List Nat)(segs:List (List Int))(h:qs.length=segs.length):(jU qs segs).length=segs.length:=by simp [jU,h]
theorem bO_ {wr w1:World}{base:Nat}{vs v:Value}{qs:List Nat}{segs:List (List Int)}{n:Nat}{xs:List Value}(h:im wr base vs v qs segs)(ho:wr.ownsRow base 5 1 v n xs)(hg:wr.grownBy w1 v.ownBlock):w1.ownsRow base 26 1 vs (jU qs segs).length (jU qs segs):=by
 rw [rp _ _ h.len];refine ei h.own fun k hk=>?_
 obtain⟨cs,hb⟩:=eM h.own k hk;exact hg.block k hb.lt (oG h.own ho (by decide) k hk)
theorem ru:(Tryz.prog.info? 26).map (fun i=>(i.zero,i.size,i.bytes))=some (some (.slice none 0 0),1,24):=by kernel_rfl
set_option maxHeartbeats 4000000 in
set_option maxRecDepth 8000 in
theorem Ga (w0 w:World)(base s g pos cnt:Nat)(bs:List Nat)(v vs hint:Value)(xs:List Int)(qs:List Nat)(segs:List (List Int))(hS:ca w s g bs pos)(hg0:g<base)(hbs:base<=s)(hO:w.ownsRow base 5 1 v xs.length (ac .u8 xs))(hQ:im w base vs v qs segs)(hB:Below base w0 w)(hbase:base<=w.heap.size)
  (hx:ab 8 bs) (hl:bs.length<=100000) (hcnt:cnt<=100000) (hxl:xs.length<=1000000) (hsl:segs.length<=1000000) (hp:pos+8*cnt<=8*bs.length) :
  Calls Tryz.prog 115 #[.pointer (some ⟨s,0,none⟩),v,.int .i64 (cnt:Int),.pointer none,vs,hint] w (F1 w0 base s g bs (pos+8*cnt) (xs++dV bs pos cnt) (segs++[dV bs pos cnt])):=by
 have kl:=ri w s g pos bs hS (by omega) hl;obtain⟨r,hr⟩:∃ r:Nat,8*bs.length-pos=r:=⟨_,rfl⟩;rw [hr] at kl;have hcr:8*cnt<=r:=by omega
 have hmk:=nc cnt (by omega);have hdd:decide ((r:Int)<8*(cnt:Int))=false:=decide_eq_false (by omega);have HS:=Mw hS;have HO:=Mw hO;have HQ:=Mw hQ;have HB:=Mw hB;have HX:=Mw hx;have HP:=Mw hp;have HLN:=Mw hl;have HXL:=Mw hxl;have HSL:=Mw hsl;clear hS hO hQ hB hx hr hp hl hxl hsl
 go_enter Tryz.func115,Tryz.ntmps115
 go_wp2_with (go_at_call 106;refine kl.mono ?_;rintro e w' ⟨rfl,m1,rfl⟩)
 clear hmk kl;obtain⟨q,hq⟩:∃ q,q=(w.drewN m1).heap.size:=⟨_,rfl⟩;obtain⟨w2,hw2⟩:∃ w2,w2=(w.drewN m1).alloc (.cells (ac .u8 (ak (My cnt 0))).toArray 5):=⟨_,rfl⟩;rw [<- hw2];have hq':q=w.heap.size:=hq;rw [<- hq'];have HQE:=Mw hq';have HBLK:=Mw (show Blk w2 q 5 (ac .u8 (iK bs pos cnt 0)).toArray by
  rw [hw2,hq,F5,show My cnt (0:Int)=ak (My cnt 0) by simp [ak]];exact Blk.new _ _ _)
 have HU:=Mw (show aC w w2 s by rw [hw2];exact⟨rfl,rfl,rfl,by simp,fun k hk _=>Below.heap_alloc (w.drewN m1) _ k hk⟩)
 have HS2:=Mw (show ca w2 s g bs (pos+8*0) by rw [hw2];exact ca.alloc (ca.move (w':=w.drewN m1) HS.out rfl rfl) _)
 have HBS:=Mw (show q<w2.heap.size by rw [hw2,hq];simp)
 clear hw2 hq hq' hdd
 go_loopw [16] (fun vi wr=>∃ i:Nat,vi=.int .i64 (i:Int)/\i<=cnt/\Aside0 (Blk wr q 5 (ac .u8 (iK bs pos cnt i)).toArray)/\Aside0 (aC w wr s)/\Aside0 (ca wr s g bs (pos+8*i))/\Aside0 (q<wr.heap.size)) (fun vi _=>(cnt-intOf vi).toNat)
 case atStart=>exact⟨0,rfl,by omega,HBLK,HU,HS2,HBS⟩
 case round=>
  clear HBLK HU HS2 HBS;obtain⟨i,rfl,hi,HBLK,HU,HS2,HBS⟩:=hrel;by_cases hic:i<cnt
  ·have kr:=kQ wr s g (pos+8*i) 8 bs HS2.out (by have:=HP.out;omega) HLN.out (by decide) (by decide) HX.out
   obtain⟨n,hnn⟩:∃ n,aq bs (pos+8*i) 8=n:=⟨_,rfl⟩;rw [hnn] at kr;have hn:n<256:=by rw [<- hnn];exact gy _ _ _
   have HSET:=Mw (show (iK bs pos cnt i).set i (n:Int)=iK bs pos cnt (i+1) by rw [<- hnn];exact F3 bs pos cnt i hic)
   have hne:q≠s:=by have:=HS.out.1.lt;have:=HQE.out;omega
   have hqg:g≠q:=by have:=HS.out.2.lt;have:=HQE.out;omega
   clear hnn
   go_wp2_with (go_at_call 107;refine kr.mono ?_;rintro e w3 ⟨rfl,hS',hT'⟩;have HS3:=Mw hS';have HU3:=Mw (HU.out.turn hT');have HBLK3:=Mw (hT'.blk HBLK.out hne);have HBS3:=Mw (show q<w3.heap.size by rw [hT'.size];exact HBS.out);have z2:w3.frozen? ⟨q,i,none⟩=false:=HBLK3.out.frozen i;obtain⟨old,z1⟩:∃ old,w3.cell? ⟨q,i,none⟩=some (.int .u8 old):=⟨_,by have:=HBLK3.out.ucell (i:Int) (by omega) (by rw [F2 _ _ _ _ (by omega)];omega);rwa [Int.toNat_natCast] at this⟩;clear hS' hT')
   have HB4:=Mw (HBLK3.out.uset i (n:Int));have HT4:=Mw (af.set w3 q i (.int .u8 (n:Int)))
   go_roundw
   case rel=>exact⟨i+1,by go_num,by omega,⟨by rw [<- HSET.out];exact HB4.out⟩,⟨HU3.out.turn_new HT4.out (by rw [HQE.out];exact Nat.le_refl _)⟩,⟨by have:=HS3.out;exact this.move (HT4.out.block s (Ne.symm hne)) (HT4.out.block g hqg)⟩,⟨by rw [HT4.out.size];exact HBS3.out⟩⟩
   case measure=>simp [intOf];omega
  have:cnt=i:=by omega
  subst this;have hblk:=HBLK.out;rw [F4] at hblk;have hbl:=yY bs pos cnt;obtain⟨ys,hys⟩:∃ ys,dV bs pos cnt=ys:=⟨_,rfl⟩;rw [hys] at hblk hbl;have HYS:=Mw hys;have HR:=Mw (F9 hblk (by omega));have HYL:=Mw hbl;have HY:=Mw hblk;have hne:q≠s:=by have:=HS.out.1.lt;have:=HQE.out;omega
  have hown:wr.ownsRow base 5 1 v xs.length (ac .u8 xs):=ei HO.out fun k hk=>by
   obtain⟨cs,hb⟩:=eM HO.out k hk;exact HU.out.block k hb.lt (bd hb HS.out.1 (by decide))
  have HOW:=Mw hown;have hq5:some q≠v.ownBlock:=by
   intro hc;obtain⟨cs,hb⟩:=eM HO.out q hc.symm;have:=hb.lt;have:=HQE.out;omega
  have HBB:=Mw (HB.out.trans (⟨HU.out.os,HU.out.tape,HU.out.output,HU.out.size,fun k hk=>HU.out.block k (by omega) (by omega)⟩:Below base w wr));have hsz:base<=wr.heap.size:=Nat.le_trans hbase HU.out.size;have HQS:=Mw (show im wr base vs v qs segs by
   refine⟨HQ.out.len,ei HQ.out.own fun k hk=>?_,fun i hi=>?_⟩
   ·obtain⟨cq,hb⟩:=eM HQ.out.own k hk;exact HU.out.block k hb.lt (bd hb HS.out.1 (by decide))
   obtain⟨h1,h2,h3⟩:=HQ.out.blk i hi;exact⟨h1,HU.out.blk h2 (bd h2 HS.out.1 (by decide)),h3⟩)
  have HQB:=Mw (show base<=q by rw [HQE.out];exact hbase)
  clear hblk hbl hys hown;have HSZ:=Mw hsz;clear hsz
  go_wp2_with (first | ((with_reducible refine bD (b:=.append) (xs:=#[.tmp 49,.tmp 50]) rfl ?_);at_builtin;refine ol (w0:=w0) base rfl (.tmp 49) (.tmp 50) 26 5 .u8 1 rfl Tryz.underlying26 F.cS (by decide) v xs ys (some ⟨q,0,none⟩) cnt cnt rfl rfl HOW.out ?aR HBB.out HSZ.out ?aL ?_;(case aR=>(have h1:=HR.out;rw [HYL.out] at h1;exact h1));(case aL=>(have:=HXL.out;omega));intro v1 w1 ho hb hg hat;have HO1:=Mw ho;have HB1:=Mw hb;have HG1:=Mw hg;have HA1:=Mw hat;clear ho hb hg hat) | ((with_reducible refine bD (b:=.append) (xs:=#[.tmp 52,.tmp 54]) rfl ?_);at_builtin;refine pL (w0:=w0) base rfl (.tmp 52) (.tmp 54) 27 26 (.slice none 0 0) 24 rfl Tryz.underlying27 ru rfl (by decide) vs (jU qs segs) (.slice (some ⟨q,0,none⟩) cnt cnt) rfl rfl rfl ?bO HB1.out ?bZ ?bL ?_;(case bO=>exact bO_ HQS.out HOW.out HG1.out);(case bZ=>exact Nat.le_trans HSZ.out HG1.out.size);(case bL=>(rw [rp _ _ HQS.out.len];have:=HSL.out;omega));intro v2 w2 ho2 hb2 hg2 hat2;have HO2:=Mw ho2;have HB2:=Mw hb2;have HG2:=Mw hg2;have HA2:=Mw hat2;clear ho2 hb2 hg2 hat2))
  go_ret3
  rw [HYS.out];have hvs1:=bO_ HQS.out HOW.out HG1.out;have hq5':∀ k,k<wr.heap.size->some k≠v.ownBlock->some k≠v1.ownBlock:=by
   intro k hk hn;rcases HA1.out with e | ⟨b,e,hb⟩
   ·rw [e];exact hn
   rw [e];intro hc;injection hc with hc;omega
  have mv:∀ (k:Nat) (t:TypeId) (cs:Array Value),Blk wr k t cs->some k≠v.ownBlock->t≠26->Blk w2 k t cs:=by
   intro k t cs hb hn ht;have h1:Blk w1 k t cs:=(HG1.out.block k hb.lt hn).trans hb;exact (HG2.out.block k h1.lt (own_ne hvs1 h1 (Ne.symm ht))).trans h1
  refine⟨v1,v2,qs++[q],rfl,ei HO1.out fun k hk=>?_,⟨by simp [HQS.out.len],?_,?_⟩,?_,HB2.out,Nat.le_trans (Nat.le_trans HSZ.out HG1.out.size) HG2.out.size⟩
  ·obtain⟨cs,hb⟩:=eM HO1.out k hk;exact HG2.out.block k hb.lt (oG HO1.out hvs1 (by decide) k hk)
  ·have h:=HO2.out;rw [Mx,rp _ _ HQS.out.len] at h;rw [F6 _ _ _ _ HQS.out.len,HYL.out,Mx];exact h
  rotate_left
  ·refine HS2.out.move ((mv _ _ _ HS2.out.1 (own_ne HOW.out HS2.out.1 (by decide)) (by decide)).trans HS2.out.1.symm) ?_;obtain⟨⟨cs,hc⟩,_⟩:=HS2.out.2;exact (mv _ _ _ hc (fun hc=>by have:=cF HOW.out g hc.symm;omega) (by decide)).trans hc.symm
  intro j hj;rw [Mx,List.length_singleton] at hj;rw [F7,F8,HQS.out.len];by_cases hjs:j<segs.length
  ·rw [if_pos hjs,if_pos hjs];obtain⟨h1,h2,h3⟩:=HQS.out.blk j hjs;exact⟨h1,mv _ _ _ h2 h3 (by decide),hq5' _ h2.lt h3⟩
  obtain rfl:j=segs.length:=by omega
  rw [if_neg hjs,if_pos rfl,if_neg hjs,if_pos rfl];exact⟨HQB.out,mv _ _ _ HY.out hq5 (by decide),hq5' _ HBS.out hq5⟩
theorem Gb (w:World)(pv v:Nat)(r:eo)(h:bT w pv (v:Int) r):Calls Tryz.prog 41 #[.pointer (some ⟨pv,0,none⟩)] w fun e w'=>e=.returned (.int .i64 (v:Int))/\w=w':=Mh w pv v r h
def kV (m:Nat):List Int:=if m=1 then [10,12,14] else if m=2 then [9,11,13] else [8,16,16]
theorem Gc (w:World)(m:Nat)(hm:m=1\/m=2\/m=4):Calls Tryz.prog 144 #[.int .i64 (m:Int)] w fun e w'=>e=.returned (.slice (some ⟨w.heap.size,0,none⟩) 3 3)/\w'=w.alloc (.cells (ac .i64 (kV m)).toArray 3):=by
 rcases hm with rfl | rfl | rfl
 all_goals
  go_enter Tryz.func144,Tryz.ntmps144
  go_wp2
  go_ret
  exact⟨rfl,rfl⟩
def iL (v:Nat):Nat:=if v<=9 then 0 else if v<=26 then 1 else 2
theorem yZ (m v:Nat)(hm:m=1\/m=2\/m=4):rd (kV m) (iL v:Nat)=(aw m v:Int):=by
 have hv:(v<=9)\/(¬ v<=9/\v<=26)\/(¬ v<=9/\¬ v<=26):=by omega
 unfold iL aw;rcases hv with h | ⟨h,h2⟩ | ⟨h,h2⟩<;>rcases hm with rfl | rfl | rfl<;>simp [*,kV,rd]<;>(first | rfl | omega)
theorem Gd (w:World)(pv v m:Nat)(r:eo)(h:bT w pv (v:Int) r)(hv:1<=v/\v<=40)(hm:m=1\/m=2\/m=4) :
  Calls Tryz.prog 111 #[.int .i64 (m:Int),.pointer (some ⟨pv,0,none⟩)] w fun e w'=>e=.returned (.int .i64 (aw m v:Int))/\Below w.heap.size w w':=by
 have kv:=Gb w pv v r h;have K:=Mw (yZ m v hm);have ho:iL v<=2:=by unfold iL;split<;>first | omega | (split<;>omega)
 obtain⟨o,hoo⟩:∃ o,iL v=o:=⟨_,rfl⟩;rw [hoo] at K ho;have hlen:(kV m).length=3:=by unfold kV;rcases hm with rfl | rfl | rfl<;>rfl
 have HB:=Mw (Blk.new w 3 (ac .i64 (kV m)).toArray);have c1:(w.alloc (.cells (ac .i64 (kV m)).toArray 3)).cell? ⟨w.heap.size,o,none⟩=some (.int .i64 (aw m v:Int)):=by
  have:=HB.out.ucell (o:Int) (by omega) (by rw [hlen];omega)
  rw [Int.toNat_natCast,K.out] at this;exact this
 have km:=Gc w m hm;obtain⟨w2,hw2⟩:∃ w2,w2=w.alloc (.cells (ac .i64 (kV m)).toArray 3):=⟨_,rfl⟩;rw [<- hw2] at c1 km;have HBel:=Mw (show Below w.heap.size w w2 by rw [hw2];exact ai (Below.refl _ _) _)
 clear h hw2 hlen;have hcs:(v<=9/\o=0)\/(10<=v/\v<=26/\o=1)\/(27<=v/\o=2):=by unfold iL at hoo;split at hoo<;>first | omega | (split at hoo<;>omega)
 clear hoo ho;rcases hcs with⟨h1,rfl⟩ | ⟨h1,h2,rfl⟩ | ⟨h1,rfl⟩
 all_goals
  go_enter Tryz.func111,Tryz.ntmps111
  go_wp2_with (first | (go_at_call 41;refine kv.mono ?_;rintro e w' ⟨rfl,rfl⟩) | (go_at_call 144;refine km.mono ?_;rintro e w' ⟨rfl,rfl⟩))
  try go_quiet (fail)
  try go_wp2
  go_ret
  exact⟨rfl,HBel.out⟩
def ip (l:Nat):ByteArray:=if l=0 then ⟨#[77]⟩ else if l=1 then ⟨#[76]⟩ else if l=2 then ⟨#[72]⟩ else ⟨#[81]⟩
theorem rv (w:World)(l:Nat)(h:l<4):Calls Tryz.prog 118 #[.int .i64 (l:Int)] w fun e w'=>e=.returned (.string (ip l))/\w=w':=by
 have:l=0\/l=1\/l=2\/l=3:=by omega
 rcases this with rfl | rfl | rfl | rfl
 all_goals
  go_enter Tryz.func118,Tryz.ntmps118
  go_wp2
  go_ret
  exact⟨rfl,rfl⟩
theorem rx (w:World)(g n cg:Nat)(t nm:ByteArray)(A:Option Addr)(m c:Nat)(sq par md:Int)(hn:n<=1000000) :
  Calls Tryz.prog 117 #[.slice (some ⟨g,0,none⟩) n cg,.string t,.slice A m c,.string nm,.int .i64 sq,.int .i64 par,.int .i64 md] w fun e w'=>e=.returned (.pointer (some ⟨w.heap.size,0,none⟩))/\
   w'=w.alloc (.cells #[.slice (some ⟨g,0,none⟩) n cg,.int .i64 (8*(n:Int)),.string t,.slice A m c,.string nm,.int .i64 0,.int .i64 0,.nilIface,.int .i64 par,.int .i64 sq,.int .i64 md] 194):=by
 go_enter Tryz.func117,Tryz.ntmps117
 go_wp2
 go_ret
 exact⟨rfl,rfl⟩
def aD (n k:Nat):List Bool:=(List.range k).map fun i=>n.testBit (k-1-i)
theorem bV (n k:Nat):(aD n k).length=k:=by simp [aD]
theorem za (n k:Nat):aD n (k+1)=aD (n/2) k++[n.testBit 0]:=by
 unfold aD;rw [List.range_succ,List.map_append];congr 1;rotate_left
 ·simp
 apply List.map_congr_left;intro i hi;have:=List.mem_range.1 hi;rw [Nat.testBit_div_two,show k-1-i+1=k+1-1-i by omega]
theorem Ge (n k:Nat):bG (aD n k)=n%2 ^ k:=by
 induction k generalizing n with
 | zero=>simp [aD,bG,Nat.mod_one]
 | succ k ih=>
  rw [za,rb,ih];have h1:bG [n.testBit 0]=n%2:=by
   simp [bG,Nat.testBit_zero];rcases Nat.mod_two_eq_zero_or_one n with h | h<;>simp [h]
  rw [h1,show (2:Nat) ^ [n.testBit 0].length=2 from rfl,show 2 ^ (k+1)=2*2 ^ k by rw [Nat.pow_succ,Nat.mul_comm]];have h3:=Nat.mod_mul (a:=2) (b:=2 ^ k) (x:=n);omega
theorem kW (bs:List Nat)(pre post:List Bool)(n k:Nat)(h:aZ bs=pre++(aD n k++post))(hn:n<2 ^ k):aq bs pre.length k=n:=by
 unfold aq seg;rw [h,List.drop_left,List.take_left' (bV n k),Ge,Nat.mod_eq_of_lt hn]
theorem nH (bs:List Nat)(pre post:List Bool)(n k:Nat)(h:aZ bs=pre++(aD n k++post)):pre.length+k<=8*bs.length:=by
 have:=congrArg List.length h;rw [mJ,Mx,Mx,bV] at this;omega
def jV (x:Int):Prop:=48<=x/\x<=57
def bH:List Int->List Bool
 | a :: b :: c :: l=>aD ((a-48)*100+(b-48)*10+(c-48)).toNat 10++bH l
 | [a,b]=>aD ((a-48)*10+(b-48)).toNat 7
 | [a]=>aD (a-48).toNat 4
 | []=>[]
theorem Gf:∀ (t:List Int) (bs:List Nat) (pre post:List Bool) (acc:List Int),aZ bs=pre++(bH t++post)->(∀ x∈t,jV x)->
  eF bs pre.length t.length acc=some (acc++t,pre.length+(bH t).length):=by
 intro t
 induction t using bH.induct with
 | case1 a b c l ih=>
  intro bs pre post acc h hd;obtain⟨ha,ha2⟩:=hd a (by simp);obtain⟨hb,hb2⟩:=hd b (by simp);obtain⟨hc,hc2⟩:=hd c (by simp);rw [bH,MA] at h;obtain⟨n,hn⟩:∃ n,((a-48)*100+(b-48)*10+(c-48)).toNat=n:=⟨_,rfl⟩;rw [hn] at h;have hn1:n<1000:=by omega
  have hr:=kW bs pre _ n 10 h (by omega);have hm:=nH bs pre _ n 10 h;rw [eF,if_pos (by simp),hr,if_pos ⟨hm,hn1⟩];have hi:=ih bs (pre++aD n 10) post (acc++[48+((n/100:Nat):Int)]++[48+((n/10%10:Nat):Int)]++[48+((n%10:Nat):Int)]) (by rw [h];simp) (fun x hx=>hd x (by simp [hx]))
  rw [Mx,bV] at hi;rw [show (a :: b :: c :: l).length-3=l.length by simp,hi,bH,hn];rw [show (48+((n/100:Nat):Int))=a by omega,show (48+((n/10%10:Nat):Int))=b by omega,show (48+((n%10:Nat):Int))=c by omega];simp [bV,Nat.add_assoc]
 | case2 a b=>
  intro bs pre post acc h hd;obtain⟨ha,ha2⟩:=hd a (by simp);obtain⟨hb,hb2⟩:=hd b (by simp);rw [bH] at h;obtain⟨n,hn⟩:∃ n,((a-48)*10+(b-48)).toNat=n:=⟨_,rfl⟩;rw [hn] at h;have hr:=kW bs pre _ n 7 h (by omega);have hm:=nH bs pre _ n 7 h;rw [eF,if_neg (by simp),if_pos (by simp),hr,if_pos ⟨hm,by omega⟩,bH,bV];rw [show (48+((n/10:Nat):Int))=a by omega,show (48+((n%10:Nat):Int))=b by omega];simp
 | case3 a=>
  intro bs pre post acc h hd;obtain⟨ha,ha2⟩:=hd a (by simp);rw [bH] at h;obtain⟨n,hn⟩:∃ n,(a-48).toNat=n:=⟨_,rfl⟩;rw [hn] at h;have hr:=kW bs pre _ n 4 h (by omega);have hm:=nH bs pre _ n 4 h;rw [eF,if_neg (by simp),if_neg (by simp),if_pos (by simp),hr,if_pos ⟨hm,by omega⟩,bH,bV];rw [show (48+(n:Int))=a by omega]
 | case4=>
  intro bs pre post acc h hd;rw [eF,if_neg (by simp),if_neg (by simp),if_neg (by simp)];simp [bH]
def bn (x:Int):Nat:=kR.findIdx fun (y:Nat)=>(y:Int)==x
theorem zd:∀ k:Fin 45,bn (fQ k.val)=k.val:=by decide +kernel
theorem o7 (x:Int)(h:bn x<45):fQ (bn x)=x:=by
 have hl:kR.length=45:=rfl;have hx:=List.findIdx_getElem (w:=show List.findIdx (fun y:Nat=>(y:Int)==x) kR<kR.length by rw [hl];exact h)
 unfold fQ;rw [Mz,List.getElem?_eq_getElem (by rw [hl];exact h),Option.getD_some]
 exact eq_of_beq hx
def cK:List Int->List Bool
 | a :: b :: l=>aD (bn a*45+bn b) 11++cK l
 | [a]=>aD (bn a) 6
 | []=>[]
theorem Gg:∀ (t:List Int) (bs:List Nat) (pre post:List Bool) (acc:List Int),aZ bs=pre++(cK t++post)->(∀ x∈t,bn x<45)->
  dy bs pre.length t.length acc=some (acc++t,pre.length+(cK t).length):=by
 intro t
 induction t using cK.induct with
 | case1 a b l ih=>
  intro bs pre post acc h hd;have ha:=hd a (by simp);have hb:=hd b (by simp);rw [cK,MA] at h;obtain⟨n,hn⟩:∃ n,bn a*45+bn b=n:=⟨_,rfl⟩;rw [hn] at h;have hr:=kW bs pre _ n 11 h (by omega);have hm:=nH bs pre _ n 11 h;have hq:n/45=bn a:=by omega
  have hq2:n%45=bn b:=by omega
  rw [dy,if_pos (by simp),hr,if_pos ⟨hm,by omega⟩,hq,hq2,o7 a ha,o7 b hb];have hi:=ih bs (pre++aD n 11) post (acc++[a]++[b]) (by rw [h];simp) (fun x hx=>hd x (by simp [hx]))
  rw [Mx,bV] at hi;rw [show (a :: b :: l).length-2=l.length by simp,hi,cK,hn];simp [bV,Nat.add_assoc]
 | case2 a=>
  intro bs pre post acc h hd;have ha:=hd a (by simp);rw [cK] at h;have hr:=kW bs pre _ _ 6 h (by omega);have hm:=nH bs pre _ _ 6 h;rw [dy,if_neg (by simp),if_pos (by simp),hr,if_pos ⟨hm,ha⟩,cK,bV,o7 a ha]
 | case3=>
  intro bs pre post acc h hd;rw [dy,if_neg (by simp),if_neg (by simp)];simp [cK]
def fS (t:List Int):List Bool:=t.flatMap fun x=>aD x.toNat 8
theorem ry (t:List Int):(fS t).length=8*t.length:=by
 unfold fS
 induction t with
 | nil=>rfl
 | cons x t ih=>rw [List.flatMap_cons,Mx,ih,bV,List.length_cons];omega
theorem Gh:∀ (t:List Int) (bs:List Nat) (pre post:List Bool),aZ bs=pre++(fS t++post)->(∀ x∈t,0<=x/\x<=255)->dV bs pre.length t.length=t:=by
 intro t
 induction t with
 | nil=>intros;rfl
 | cons x t ih=>
  intro bs pre post h hd;obtain⟨h0,h1⟩:=hd x (by simp);have e:fS (x :: t)=aD x.toNat 8++fS t:=by simp [fS]
  rw [e,MA] at h;have hr:=kW bs pre _ _ 8 h (by omega);have hi:=ih bs (pre++aD x.toNat 8) post (by rw [h];simp) (fun y hy=>hd y (by simp [hy]))
  rw [Mx,bV] at hi;unfold dV at hi ⊢;rw [List.length_cons,List.range_succ_eq_map,List.map_cons,List.map_map,Nat.mul_zero,Nat.add_zero,hr];have e2:((fun i=>((aq bs (pre.length+8*i) 8:Nat):Int)) ∘ Nat.succ)=fun i=>((aq bs (pre.length+8+8*i) 8:Nat):Int):=by
   funext i;show ((aq bs (pre.length+8*(i+1)) 8:Nat):Int)=_;rw [show pre.length+8*(i+1)=pre.length+8+8*i by omega]
  rw [e2,hi,show ((x.toNat:Nat):Int)=x by omega]
structure Sg where
 mode:Nat
 text:List Int
def dN (s:Sg):List Bool:=if s.mode=1 then bH s.text else if s.mode=2 then cK s.text else fS s.text
structure Sg.Ok (s:Sg)(v:Nat):Prop where
 mode:s.mode=1\/s.mode=2\/s.mode=4
 num:s.mode=1->∀ x∈s.text,jV x
 al:s.mode=2->∀ x∈s.text,bn x<45
 by_:∀ x∈s.text,0<=x/\x<=255
 len:s.text.length<2 ^ aw s.mode v
def mM (s:Sg)(v:Nat):List Bool:=aD s.mode 4++(aD s.text.length (aw s.mode v)++dN s)
def cO (l:List Sg)(v:Nat):List Bool:=l.flatMap fun s=>mM s v
def kX (fc:Bool)(s:Sg):List Int:=if fc=true/\s.mode=2 then bj s.text else s.text
def kY (fc:Bool)(l:List Sg):List Int:=l.flatMap (kX fc)
def la (l:List Sg):List (List Int):=l.flatMap fun s=>if s.mode=4 then [s.text] else []
theorem Gi {α:Type}(a b:List α):(a++b).drop a.length=b:=List.drop_left
theorem Gj (bs:List Nat)(v:Nat)(post:List Bool)(hpost:post.length<4\/∃ q,post=aD 0 4++q):∀ (l:List Sg) (pre:List Bool) (st:PS),(∀ s∈l,s.Ok v)->
  aZ bs=pre++(cO l v++post)->st.pos=pre.length->
  ∃ p,Rd bs v st (some { st with pos:=p,out:=st.out++kY st.fc l,segs:=st.segs++la l }):=by
 intro l
 induction l with
 | nil=>
  intro pre st _ h hp;simp only [cO,List.flatMap_nil,List.nil_append] at h;have hl:=congrArg List.length h;rw [mJ,Mx] at hl;rcases hpost with hq | ⟨q,hq⟩
  ·refine⟨st.pos,?_⟩;have:=Rd.done (bs:=bs) (v:=v) st (by omega) (by omega);simpa [kY,la] using this
  subst hq;have:=Rd.stop (bs:=bs) (v:=v) st (by rw [Mx,bV] at hl;omega) (by rw [hp];exact kW bs pre q 0 4 h (by decide))
  exact⟨st.pos+4,by simpa [kY,la] using this⟩
 | cons s l ih=>
  intro pre st hok h hp;have hs:=hok s (by simp);have h1:aZ bs=pre++(aD s.mode 4++(aD s.text.length (aw s.mode v)++(dN s++(cO l v++post)))):=by
   rw [h];simp [cO,mM,MA]
  have hm16:s.mode<16:=by rcases hs.mode with h | h | h<;>omega
  have r1:=kW bs pre _ _ 4 h1 hm16;have h2:aZ bs=(pre++aD s.mode 4)++(aD s.text.length (aw s.mode v)++(dN s++(cO l v++post))):=by rw [h1];simp
  have r2:=kW bs _ _ _ _ h2 hs.len;have m2:=nH bs _ _ _ _ h2;have h3:aZ bs=(pre++aD s.mode 4++aD s.text.length (aw s.mode v))++(dN s++(cO l v++post)):=by rw [h2];simp
  rw [Mx,bV,<- hp] at r2 m2;rw [<- hp] at r1;have hpl:(pre++aD s.mode 4++aD s.text.length (aw s.mode v)).length=st.pos+4+aw s.mode v:=by rw [Mx,Mx,bV,bV,hp]
  have hnext:aZ bs=(pre++aD s.mode 4++aD s.text.length (aw s.mode v)++dN s)++(cO l v++post):=by rw [h3];simp
  have hnl:(pre++aD s.mode 4++aD s.text.length (aw s.mode v)++dN s).length=st.pos+4+aw s.mode v+(dN s).length:=by rw [Mx,hpl]
  obtain⟨p,hr⟩:=ih _ { st with pos:=st.pos+4+aw s.mode v+(dN s).length,out:=st.out++kX st.fc s,segs:=st.segs++(if s.mode=4 then [s.text] else []) } (fun x hx=>hok x (by simp [hx])) hnext hnl.symm;refine⟨p,?_⟩;have hr':Rd bs v { st with pos:=st.pos+4+aw s.mode v+(dN s).length,out:=st.out++kX st.fc s,segs:=st.segs++(if s.mode=4 then [s.text] else []) } (some { st with pos:=p,out:=st.out++kY st.fc (s :: l),segs:=st.segs++la (s :: l) }):=by
   simpa [kY,la,MA] using hr
  clear hr;rcases hs.mode with hm | hm | hm
  ·rw [hm] at r1 r2 m2 hpl;have hd:dN s=bH s.text:=by simp [dN,hm]
   rw [hd,hm] at h3;have hn:=Gf s.text bs _ _ st.out h3 (hs.num hm);rw [hpl] at hn;refine Rd.num st _ _ _ r1 m2 (by rw [r2];exact hn) ?_
   have e:kX st.fc s=s.text:=by simp [kX,hm]
   rw [e,hm,hd] at hr';simpa [hm] using hr'
  ·rw [hm] at r1 r2 m2 hpl;have hd:dN s=cK s.text:=by simp [dN,hm]
   rw [hd,hm] at h3;have hn:=Gg s.text bs _ _ st.out h3 (hs.al hm);rw [hpl] at hn;refine Rd.al st _ _ _ r1 m2 (by rw [r2];exact hn) ?_
   have e:kS st.fc st.out (st.out++s.text)=st.out++kX st.fc s:=by
    unfold kS kX;rw [Gi];cases st.fc<;>simp [hm]
   rw [hm,hd] at hr';rw [e];simpa [hm] using hr'
  rw [hm] at r1 r2 m2 hpl;have hd:dN s=fS s.text:=by simp [dN,hm]
  rw [hd,hm] at h3;have hn:=Gh s.text bs _ _ h3 hs.by_;rw [hpl] at hn;have hroom:st.pos+4+aw 4 v+8*s.text.length<=8*bs.length:=by
   have:=congrArg List.length hnext;rw [mJ,Mx,hnl,hd,ry,hm] at this;omega
  refine Rd.byte st s.text.length _ r1 m2 r2 hroom ?_;have e:kX st.fc s=s.text:=by simp [kX,hm]
  rw [e,hm,hd,ry] at hr';rw [hn];simpa [hm] using hr'
end Go.Proofs.YtgccjgpdjkhpdaaGreat.B
