import Derived.Laws.OwnMore
import Derived.Deep.RegionWith
import Derived.Test.YtgccjgpdjkhpdaaGreatVQ24
/-! Own texts of this claim, part 25. -/
namespace Go.Proofs.YtgccjgpdjkhpdaaGreat.B
open Go.RowKit Go.Proofs.YtgccjgpdjkhpdaaGreatW.PrintWords Go.Proofs.YtgccjgpdjkhpdaaGreatW.PrintLast Go.Proofs.YtgccjgpdjkhpdaaGreatW.PrintMore
set_option linter.unusedVariables false
set_option linter.unusedSimpArgs false
set_option maxRecDepth 8000 in
theorem readBits_bad (w:World)(s g pos k:Nat)(xs:List Nat)(h:SrcAt w s g xs pos)(hp:pos<=8*xs.length)(hs:8*xs.length<pos+k)(hl:xs.length<=100000)(hk:1<=k)(hk2:k<=32) :
  Calls Tryz.prog 107 #[.pointer (some ⟨s,0,none⟩),.int .i64 (k:Int)] w fun e w'=>(∃ x,e=.returned (.tuple #[.int .i64 0,.iface 216 x]))/\Below w.heap.size w w':=by
 have kl:=srcLeft w s g pos xs h hp hl
 obtain⟨r,hr⟩:∃ r:Nat,8*xs.length-pos=r:=⟨_,rfl⟩
 rw [hr] at kl
 have hrk:r<k:=by omega
 clear h hp hs hl hr
 go_enter Tryz.func107,Tryz.ntmps107
 go_wp2_with (first | (go_at_call 106;refine kl.mono ?_;rintro e w' ⟨rfl,m1,rfl⟩) | (go_at_call 103;refine (errNew _ _).mono ?_;rintro e w' ⟨rfl,rfl⟩))
 go_ret2
 exact⟨⟨_,rfl⟩,below_alloc (pw_below_drewN (Below.refl w.heap.size w) m1) _⟩
theorem modeFor (w:World)(n:Nat)(h:n=0\/n=1\/n=2\/n=3\/n=4\/n=5\/n=7\/n=8\/n=9):Calls Tryz.prog 108 #[.int .i64 (n:Int)] w fun e w'=>e=.returned (.tuple #[.int .i64 (n:Int),.nilIface])/\w'=w:=by
 rcases h with rfl | rfl | rfl | rfl | rfl | rfl | rfl | rfl | rfl
 all_goals
  go_enter Tryz.func108,Tryz.ntmps108
  go_wp2
  go_ret2
  exact⟨rfl,rfl⟩
theorem SrcAt.grown {w w1:World}{s g pos base n:Nat}{bs:List Nat}{v:Value}{hs:List Value}(h:SrcAt w s g bs pos)(hown:w.ownsRow base 5 1 v n hs)(hg:g<base)(hgr:w.grownBy w1 v.ownBlock):SrcAt w1 s g bs pos :=
 h.move (hgr.block s h.1.lt (own_ne hown h.1 (by decide))) (hgr.block g h.2.lt (fun hc=>by have:=own_base hown g hc.symm;omega))
theorem SrcAt.alloc {w:World}{s g pos:Nat}{bs:List Nat}(h:SrcAt w s g bs pos)(o:Obj):SrcAt (w.alloc o) s g bs pos:=h.move (Below.heap_alloc w o s h.1.lt) (Below.heap_alloc w o g h.2.lt)
theorem own_turn {w w':World}{s base n:Nat}{v:Value}{hs:List Value}{cs:Array Value}(hown:w.ownsRow base 5 1 v n hs)(h:Blk w s 226 cs)(ht:Turn w w' s):w'.ownsRow base 5 1 v n hs :=
 own_move hown fun k hk=>ht.block k (by rintro rfl;exact own_ne hown h (by decide) hk.symm)
structure Grow (w w':World)(s:Nat)(v v':Value):Prop where
 os:w'.os=w.os
 tape:w'.tape=w.tape
 output:w'.output=w.output
 size:w.heap.size<=w'.heap.size
 block:∀ k,k<w.heap.size->k≠s->some k≠v.ownBlock->w'.heap[k]? = w.heap[k]?
 at_:v'.ownBlock=v.ownBlock\/∃ b,v'.ownBlock=some b/\w.heap.size<=b
theorem Grow.refl (w:World)(s:Nat)(v:Value):Grow w w s v v:=⟨rfl,rfl,rfl,Nat.le_refl _,fun _ _ _ _=>rfl,.inl rfl⟩
theorem Grow.turn {w x y:World}{s:Nat}{v v':Value}(h:Grow w x s v v')(k:Turn x y s):Grow w y s v v' :=
 ⟨k.os.trans h.os,k.tape.trans h.tape,k.output.trans h.output,by rw [k.size];exact h.size,fun i hi h1 h2=>(k.block i h1).trans (h.block i hi h1 h2),h.at_⟩
theorem Grow.alloc {w x:World}{s:Nat}{v v':Value}(h:Grow w x s v v')(o:Obj):Grow w (x.alloc o) s v v' :=
 ⟨h.os,h.tape,h.output,by simp;exact Nat.le_succ_of_le h.size,fun i hi h1 h2=>(Below.heap_alloc x o i (Nat.lt_of_lt_of_le hi h.size)).trans (h.block i hi h1 h2),h.at_⟩
theorem Grow.app {w x y:World}{s:Nat}{v v' v2:Value}(h:Grow w x s v v')(k:x.grownBy y v'.ownBlock)(hat:v2.ownBlock=v'.ownBlock\/∃ b,v2.ownBlock=some b/\x.heap.size<=b):Grow w y s v v2:=by
 have hs:=h.size
 refine⟨k.os.trans h.os,k.tape.trans h.tape,k.output.trans h.output,Nat.le_trans hs k.size,fun i hi h1 h2=>?_,?_⟩
 ·refine (k.block i (by omega) ?_).trans (h.block i hi h1 h2)
  rcases h.at_ with e | ⟨b,e,hb⟩
  ·rw [e];exact h2
  ·rw [e];intro hc;injection hc with hc;omega
 ·rcases hat with e | ⟨b,e,hb⟩
  ·rw [e];exact h.at_
  ·exact .inr ⟨b,e,by omega⟩
theorem Grow.trans {w x y:World}{s:Nat}{v v' v2:Value}(h:Grow w x s v v')(k:Grow x y s v' v2):Grow w y s v v2:=by
 have hs:=h.size
 refine⟨k.os.trans h.os,k.tape.trans h.tape,k.output.trans h.output,Nat.le_trans hs k.size,fun i hi h1 h2=>?_,?_⟩
 ·refine (k.block i (by omega) h1 ?_).trans (h.block i hi h1 h2)
  rcases h.at_ with e | ⟨b,e,hb⟩
  ·rw [e];exact h2
  ·rw [e];intro hc;injection hc with hc;omega
 ·rcases k.at_ with e | ⟨b,e,hb⟩
  ·rw [e];exact h.at_
  ·exact .inr ⟨b,e,by omega⟩
theorem Grow.blk {w w':World}{s q:Nat}{v v':Value}{t:TypeId}{cs:Array Value}(h:Grow w w' s v v')(hq:Blk w q t cs)(h1:q≠s)(h2:some q≠v.ownBlock):Blk w' q t cs/\some q≠v'.ownBlock:=by
 refine⟨(h.block q hq.lt h1 h2).trans hq,?_⟩
 rcases h.at_ with e | ⟨b,e,hb⟩
 ·rw [e];exact h2
 ·rw [e];intro hc;injection hc with hc;have:=hq.lt;omega
theorem own_blk {w:World}{base n size:Nat}{e:TypeId}{v:Value}{xs:List Value}(h:w.ownsRow base e size v n xs)(k:Nat)(hk:v.ownBlock=some k):∃ cs,Blk w k e cs:=by
 rcases h.2 with⟨rfl,_⟩ | ⟨g,cap,cur,rfl,hb,hh,_⟩
 ·simp [Value.ownBlock] at hk
 ·have:g=k:=by simpa [Value.ownBlock] using hk
  subst this
  exact⟨cur,hh⟩
theorem own_apart {w:World}{base n size n' size' base':Nat}{e e':TypeId}{v v':Value}{xs xs':List Value}(h:w.ownsRow base e size v n xs)(h':w.ownsRow base' e' size' v' n' xs')(hne:e≠e')(k:Nat)(hk:v.ownBlock=some k):some k≠v'.ownBlock:=by
 obtain⟨cs,hb⟩:=own_blk h k hk
 exact own_ne h' hb (Ne.symm hne)
def segCells (qs:List Nat)(segs:List (List Int)):List Value:=List.zipWith (fun q t=>.slice (some ⟨q,0,none⟩) t.length t.length) qs segs
structure SegsAt (w:World)(base:Nat)(vs v:Value)(qs:List Nat)(segs:List (List Int)):Prop where
 len:qs.length=segs.length
 own:w.ownsRow base 26 1 vs segs.length (segCells qs segs)
 blk:∀ i,i<segs.length->base<=qs.getD i 0/\Blk w (qs.getD i 0) 5 (nums .u8 (segs.getD i [])).toArray/\some (qs.getD i 0)≠v.ownBlock
theorem SegsAt.grow {w w':World}{base s n:Nat}{vs v v':Value}{qs:List Nat}{segs:List (List Int)}{cs:Array Value}{xs:List Value}(h:SegsAt w base vs v qs segs)(hv:w.ownsRow base 5 1 v n xs)(hs:Blk w s 226 cs)(k:Grow w w' s v v'):SegsAt w' base vs v' qs segs:=by
 refine⟨h.len,own_move h.own fun q hq=>?_,fun i hi=>?_⟩
 ·obtain⟨cq,hb⟩:=own_blk h.own q hq
  exact k.block q hb.lt (blk_ne hb hs (by decide)) (own_apart h.own hv (by decide) q hq)
 ·obtain⟨h1,h2,h3⟩:=h.blk i hi
  obtain⟨h4,h5⟩:=k.blk h2 (blk_ne h2 hs (by decide)) h3
  exact⟨h1,h4,h5⟩
def ByteDone (w0:World)(base s g:Nat)(bs:List Nat)(pos:Nat)(ys:List Int)(segs:List (List Int))(e:Ending)(w':World):Prop :=
 ∃ v' vs' qs',e=.returned (.tuple #[v',vs',.nilIface])/\w'.ownsRow base 5 1 v' ys.length (nums .u8 ys)/\SegsAt w' base vs' v' qs' segs/\SrcAt w' s g bs pos/\Below base w0 w'/\base<=w'.heap.size
theorem byteSeg_len (bs:List Nat)(pos n:Nat):(byteSeg bs pos n).length=n:=by simp [byteSeg]
def byTo (bs:List Nat)(pos n i:Nat):List Int:=byteSeg bs pos i++List.replicate (n-i) 0
theorem byTo_len (bs:List Nat)(pos n i:Nat)(h:i<=n):(byTo bs pos n i).length=n:=by simp [byTo,byteSeg];omega
theorem byTo_set (bs:List Nat)(pos n i:Nat)(h:i<n):(byTo bs pos n i).set i (rdBits bs (pos+8*i) 8:Int)=byTo bs pos n (i+1):=by
 unfold byTo
 have hl:=byteSeg_len bs pos i
 rw [List.set_append_right _ _ (by omega),hl,Nat.sub_self,show n-i=(n-(i+1))+1 by omega,List.replicate_succ,List.set_cons_zero]
 simp [byteSeg,List.range_succ]
theorem byTo_all (bs:List Nat)(pos n:Nat):byTo bs pos n n=byteSeg bs pos n:=by simp [byTo]
theorem byTo_zero (bs:List Nat)(pos n:Nat):byTo bs pos n 0=List.replicate n 0:=by simp [byTo,byteSeg]
theorem Upd.turn {w x y:World}{s:Nat}(h:Upd w x s)(k:Turn x y s):Upd w y s:=⟨k.os.trans h.os,k.tape.trans h.tape,k.output.trans h.output,by rw [k.size];exact h.size,fun i hi h1=>(k.block i h1).trans (h.block i hi h1)⟩
theorem Upd.turn_new {w x y:World}{s q:Nat}(h:Upd w x s)(k:Turn x y q)(hq:w.heap.size<=q):Upd w y s:=⟨k.os.trans h.os,k.tape.trans h.tape,k.output.trans h.output,by rw [k.size];exact h.size,fun i hi h1=>(k.block i (by omega)).trans (h.block i hi h1)⟩
theorem segCells_snoc (qs:List Nat)(segs:List (List Int))(q:Nat)(t:List Int)(h:qs.length=segs.length):segCells (qs++[q]) (segs++[t])=segCells qs segs++[.slice (some ⟨q,0,none⟩) t.length t.length]:=by
 unfold segCells
 rw [List.zipWith_append h]
 rfl
theorem getD_snocN (l:List Nat)(x d i:Nat):(l++[x]).getD i d=if i<l.length then l.getD i d else if i=l.length then x else d:=by
 rw [List.getD_eq_getElem?_getD,List.getD_eq_getElem?_getD]
 by_cases h:i<l.length
 ·rw [List.getElem?_append_left h,if_pos h]
 ·rw [if_neg h,List.getElem?_append_right (by omega)]
  by_cases h2:i=l.length
  ·subst h2;simp
  ·rw [if_neg h2,List.getElem?_eq_none (by simp;omega)];rfl
theorem getD_snocL (l:List (List Int))(x:List Int)(i:Nat):(l++[x]).getD i []=if i<l.length then l.getD i [] else if i=l.length then x else []:=by
 rw [List.getD_eq_getElem?_getD,List.getD_eq_getElem?_getD]
 by_cases h:i<l.length
 ·rw [List.getElem?_append_left h,if_pos h]
 ·rw [if_neg h,List.getElem?_append_right (by omega)]
  by_cases h2:i=l.length
  ·subst h2;simp
  ·rw [if_neg h2,List.getElem?_eq_none (by simp;omega)];rfl
theorem reads_blk {w:World}{q:Nat}{xs:List Int}(h:Blk w q 5 (nums .u8 xs).toArray)(hl:xs.length<=1000000):ReadsInt w .u8 (some ⟨q,0,none⟩) xs.length xs:=by
 refine⟨rfl,by omega,fun _=>⟨_,rfl,fun j hj=>?_⟩⟩
 rw [add_plain]
 have:=h.ucell (j:Int) (by omega) (by omega)
 simpa [rd] using this
theorem segCells_len (qs:List Nat)(segs:List (List Int))(h:qs.length=segs.length):(segCells qs segs).length=segs.length:=by simp [segCells,h]
theorem bO_ {wr w1:World}{base:Nat}{vs v:Value}{qs:List Nat}{segs:List (List Int)}{n:Nat}{xs:List Value}(h:SegsAt wr base vs v qs segs)(ho:wr.ownsRow base 5 1 v n xs)(hg:wr.grownBy w1 v.ownBlock):w1.ownsRow base 26 1 vs (segCells qs segs).length (segCells qs segs):=by
 rw [segCells_len _ _ h.len]
 refine own_move h.own fun k hk=>?_
 obtain⟨cs,hb⟩:=own_blk h.own k hk
 exact hg.block k hb.lt (own_apart h.own ho (by decide) k hk)
theorem info26s:(Tryz.prog.info? 26).map (fun i=>(i.zero,i.size,i.bytes))=some (some (.slice none 0 0),1,24):=by kernel_rfl
set_option maxHeartbeats 4000000 in
set_option maxRecDepth 8000 in
theorem byteWalk (w0 w:World)(base s g pos cnt:Nat)(bs:List Nat)(v vs hint:Value)(xs:List Int)(qs:List Nat)(segs:List (List Int))(hS:SrcAt w s g bs pos)(hg0:g<base)(hbs:base<=s)(hO:w.ownsRow base 5 1 v xs.length (nums .u8 xs))(hQ:SegsAt w base vs v qs segs)(hB:Below base w0 w)(hbase:base<=w.heap.size)
  (hx:AllLt 8 bs) (hl:bs.length<=100000) (hcnt:cnt<=100000) (hxl:xs.length<=1000000) (hsl:segs.length<=1000000) (hp:pos+8*cnt<=8*bs.length) :
  Calls Tryz.prog 115 #[.pointer (some ⟨s,0,none⟩),v,.int .i64 (cnt:Int),.pointer none,vs,hint] w (ByteDone w0 base s g bs (pos+8*cnt) (xs++byteSeg bs pos cnt) (segs++[byteSeg bs pos cnt])):=by
 have kl:=srcLeft w s g pos bs hS (by omega) hl
 obtain⟨r,hr⟩:∃ r:Nat,8*bs.length-pos=r:=⟨_,rfl⟩
 rw [hr] at kl
 have hcr:8*cnt<=r:=by omega
 have hmk:=make_u8 cnt (by omega)
 have hdd:decide ((r:Int)<8*(cnt:Int))=false:=decide_eq_false (by omega)
 have HS:=Aside0.mk hS
 have HO:=Aside0.mk hO
 have HQ:=Aside0.mk hQ
 have HB:=Aside0.mk hB
 have HX:=Aside0.mk hx
 have HP:=Aside0.mk hp
 have HLN:=Aside0.mk hl
 have HXL:=Aside0.mk hxl
 have HSL:=Aside0.mk hsl
 clear hS hO hQ hB hx hr hp hl hxl hsl
 go_enter Tryz.func115,Tryz.ntmps115
 go_wp2_with (go_at_call 106;refine kl.mono ?_;rintro e w' ⟨rfl,m1,rfl⟩)
 clear hmk kl
 obtain⟨q,hq⟩:∃ q,q=(w.drewN m1).heap.size:=⟨_,rfl⟩
 obtain⟨w2,hw2⟩:∃ w2,w2=(w.drewN m1).alloc (.cells (nums .u8 (ints (List.replicate cnt 0))).toArray 5):=⟨_,rfl⟩
 rw [<- hw2]
 have hq':q=w.heap.size:=hq
 rw [<- hq']
 have HQE:=Aside0.mk hq'
 have HBLK:=Aside0.mk (show Blk w2 q 5 (nums .u8 (byTo bs pos cnt 0)).toArray by
  rw [hw2,hq,byTo_zero,show List.replicate cnt (0:Int)=ints (List.replicate cnt 0) by simp [ints]]
  exact Blk.new _ _ _)
 have HU:=Aside0.mk (show Upd w w2 s by rw [hw2];exact⟨rfl,rfl,rfl,by simp,fun k hk _=>Below.heap_alloc (w.drewN m1) _ k hk⟩)
 have HS2:=Aside0.mk (show SrcAt w2 s g bs (pos+8*0) by rw [hw2];exact SrcAt.alloc (SrcAt.move (w':=w.drewN m1) HS.out rfl rfl) _)
 have HBS:=Aside0.mk (show q<w2.heap.size by rw [hw2,hq];simp)
 clear hw2 hq hq' hdd
 go_loopw [16] (fun vi wr=>∃ i:Nat,vi=.int .i64 (i:Int)/\i<=cnt/\Aside0 (Blk wr q 5 (nums .u8 (byTo bs pos cnt i)).toArray)/\Aside0 (Upd w wr s)/\Aside0 (SrcAt wr s g bs (pos+8*i))/\Aside0 (q<wr.heap.size)) (fun vi _=>(cnt-intOf vi).toNat)
 case atStart=>exact⟨0,rfl,by omega,HBLK,HU,HS2,HBS⟩
 case round=>
  clear HBLK HU HS2 HBS
  obtain⟨i,rfl,hi,HBLK,HU,HS2,HBS⟩:=hrel
  by_cases hic:i<cnt
  ·have kr:=readBits wr s g (pos+8*i) 8 bs HS2.out (by have:=HP.out;omega) HLN.out (by decide) (by decide) HX.out
   obtain⟨n,hnn⟩:∃ n,rdBits bs (pos+8*i) 8=n:=⟨_,rfl⟩
   rw [hnn] at kr
   have hn:n<256:=by rw [<- hnn];exact rdBits_lt _ _ _
   have HSET:=Aside0.mk (show (byTo bs pos cnt i).set i (n:Int)=byTo bs pos cnt (i+1) by rw [<- hnn];exact byTo_set bs pos cnt i hic)
   have hne:q≠s:=by have:=HS.out.1.lt;have:=HQE.out;omega
   have hqg:g≠q:=by have:=HS.out.2.lt;have:=HQE.out;omega
   clear hnn
   go_wp2_with (go_at_call 107;refine kr.mono ?_;rintro e w3 ⟨rfl,hS',hT'⟩;have HS3:=Aside0.mk hS';have HU3:=Aside0.mk (HU.out.turn hT');have HBLK3:=Aside0.mk (hT'.blk HBLK.out hne);have HBS3:=Aside0.mk (show q<w3.heap.size by rw [hT'.size];exact HBS.out);have z2:w3.frozen? ⟨q,i,none⟩=false:=HBLK3.out.frozen i;obtain⟨old,z1⟩:∃ old,w3.cell? ⟨q,i,none⟩=some (.int .u8 old):=⟨_,by have:=HBLK3.out.ucell (i:Int) (by omega) (by rw [byTo_len _ _ _ _ (by omega)];omega);rwa [Int.toNat_natCast] at this⟩;clear hS' hT')
   have HB4:=Aside0.mk (HBLK3.out.uset i (n:Int))
   have HT4:=Aside0.mk (Turn.set w3 q i (.int .u8 (n:Int)))
   go_roundw
   case rel=>exact⟨i+1,by go_num,by omega,⟨by rw [<- HSET.out];exact HB4.out⟩,⟨HU3.out.turn_new HT4.out (by rw [HQE.out];exact Nat.le_refl _)⟩,⟨by have:=HS3.out;exact this.move (HT4.out.block s (Ne.symm hne)) (HT4.out.block g hqg)⟩,⟨by rw [HT4.out.size];exact HBS3.out⟩⟩
   case measure=>simp [intOf];omega
  ·have:cnt=i:=by omega
   subst this
   have hblk:=HBLK.out
   rw [byTo_all] at hblk
   have hbl:=byteSeg_len bs pos cnt
   obtain⟨ys,hys⟩:∃ ys,byteSeg bs pos cnt=ys:=⟨_,rfl⟩
   rw [hys] at hblk hbl
   have HYS:=Aside0.mk hys
   have HR:=Aside0.mk (reads_blk hblk (by omega))
   have HYL:=Aside0.mk hbl
   have HY:=Aside0.mk hblk
   have hne:q≠s:=by have:=HS.out.1.lt;have:=HQE.out;omega
   have hown:wr.ownsRow base 5 1 v xs.length (nums .u8 xs):=own_move HO.out fun k hk=>by
    obtain⟨cs,hb⟩:=own_blk HO.out k hk
    exact HU.out.block k hb.lt (blk_ne hb HS.out.1 (by decide))
   have HOW:=Aside0.mk hown
   have hq5:some q≠v.ownBlock:=by
    intro hc
    obtain⟨cs,hb⟩:=own_blk HO.out q hc.symm
    have:=hb.lt
    have:=HQE.out
    omega
   have HBB:=Aside0.mk (HB.out.trans (⟨HU.out.os,HU.out.tape,HU.out.output,HU.out.size,fun k hk=>HU.out.block k (by omega) (by omega)⟩:Below base w wr))
   have hsz:base<=wr.heap.size:=Nat.le_trans hbase HU.out.size
   have HQS:=Aside0.mk (show SegsAt wr base vs v qs segs by
    refine⟨HQ.out.len,own_move HQ.out.own fun k hk=>?_,fun i hi=>?_⟩
    ·obtain⟨cq,hb⟩:=own_blk HQ.out.own k hk
     exact HU.out.block k hb.lt (blk_ne hb HS.out.1 (by decide))
    ·obtain⟨h1,h2,h3⟩:=HQ.out.blk i hi
     exact⟨h1,HU.out.blk h2 (blk_ne h2 HS.out.1 (by decide)),h3⟩)
   have HQB:=Aside0.mk (show base<=q by rw [HQE.out];exact hbase)
   clear hblk hbl hys hown
   have HSZ:=Aside0.mk hsz
   clear hsz
   go_wp2_with (first | ((with_reducible refine gate_builtin (b:=.append) (xs:=#[.tmp 49,.tmp 50]) rfl ?_);at_builtin;refine print_append_row (w0:=w0) base rfl (.tmp 49) (.tmp 50) 26 5 .u8 1 rfl Tryz.underlying26 F.info5 (by decide) v xs ys (some ⟨q,0,none⟩) cnt cnt rfl rfl HOW.out ?aR HBB.out HSZ.out ?aL ?_;(case aR=>(have h1:=HR.out;rw [HYL.out] at h1;exact h1));(case aL=>(have:=HXL.out;omega));intro v1 w1 ho hb hg hat;have HO1:=Aside0.mk ho;have HB1:=Aside0.mk hb;have HG1:=Aside0.mk hg;have HA1:=Aside0.mk hat;clear ho hb hg hat) | ((with_reducible refine gate_builtin (b:=.append) (xs:=#[.tmp 52,.tmp 54]) rfl ?_);at_builtin;refine print_append (w0:=w0) base rfl (.tmp 52) (.tmp 54) 27 26 (.slice none 0 0) 24 rfl Tryz.underlying27 info26s rfl (by decide) vs (segCells qs segs) (.slice (some ⟨q,0,none⟩) cnt cnt) rfl rfl rfl ?bO HB1.out ?bZ ?bL ?_;(case bO=>exact bO_ HQS.out HOW.out HG1.out);(case bZ=>exact Nat.le_trans HSZ.out HG1.out.size);(case bL=>(rw [segCells_len _ _ HQS.out.len];have:=HSL.out;omega));intro v2 w2 ho2 hb2 hg2 hat2;have HO2:=Aside0.mk ho2;have HB2:=Aside0.mk hb2;have HG2:=Aside0.mk hg2;have HA2:=Aside0.mk hat2;clear ho2 hb2 hg2 hat2))
   go_ret3
   rw [HYS.out]
   have hvs1:=bO_ HQS.out HOW.out HG1.out
   have hq5':∀ k,k<wr.heap.size->some k≠v.ownBlock->some k≠v1.ownBlock:=by
    intro k hk hn
    rcases HA1.out with e | ⟨b,e,hb⟩
    ·rw [e];exact hn
    ·rw [e];intro hc;injection hc with hc;omega
   have mv:∀ (k:Nat) (t:TypeId) (cs:Array Value),Blk wr k t cs->some k≠v.ownBlock->t≠26->Blk w2 k t cs:=by
    intro k t cs hb hn ht
    have h1:Blk w1 k t cs:=(HG1.out.block k hb.lt hn).trans hb
    exact (HG2.out.block k h1.lt (own_ne hvs1 h1 (Ne.symm ht))).trans h1
   refine⟨v1,v2,qs++[q],rfl,own_move HO1.out fun k hk=>?_,⟨by simp [HQS.out.len],?_,?_⟩,?_,HB2.out,Nat.le_trans (Nat.le_trans HSZ.out HG1.out.size) HG2.out.size⟩
   ·obtain⟨cs,hb⟩:=own_blk HO1.out k hk
    exact HG2.out.block k hb.lt (own_apart HO1.out hvs1 (by decide) k hk)
   ·have h:=HO2.out
    rw [List.length_append,segCells_len _ _ HQS.out.len] at h
    rw [segCells_snoc _ _ _ _ HQS.out.len,HYL.out,List.length_append]
    exact h
   ·intro j hj
    rw [List.length_append,List.length_singleton] at hj
    rw [getD_snocN,getD_snocL,HQS.out.len]
    by_cases hjs:j<segs.length
    ·rw [if_pos hjs,if_pos hjs]
     obtain⟨h1,h2,h3⟩:=HQS.out.blk j hjs
     exact⟨h1,mv _ _ _ h2 h3 (by decide),hq5' _ h2.lt h3⟩
    ·obtain rfl:j=segs.length:=by omega
     rw [if_neg hjs,if_pos rfl,if_neg hjs,if_pos rfl]
     exact⟨HQB.out,mv _ _ _ HY.out hq5 (by decide),hq5' _ HBS.out hq5⟩
   ·refine HS2.out.move ((mv _ _ _ HS2.out.1 (own_ne HOW.out HS2.out.1 (by decide)) (by decide)).trans HS2.out.1.symm) ?_
    obtain⟨⟨cs,hc⟩,_⟩:=HS2.out.2
    exact (mv _ _ _ hc (fun hc=>by have:=own_base HOW.out g hc.symm;omega) (by decide)).trans hc.symm
theorem gs1_other (x:Int)(l:List Int)(h:x≠37):gs1 (x :: l)=x :: gs1 l:=by
 cases l with
 | nil=>simp [gs1,h]
 | cons y l=>rw [gs1,if_neg h]
theorem gs1_two (l:List Int):gs1 (37 :: 37 :: l)=37 :: gs1 l:=by rw [gs1,if_pos rfl,if_pos rfl]
theorem gs1_sep (y:Int)(l:List Int)(h:y≠37):gs1 (37 :: y :: l)=29 :: gs1 (y :: l):=by rw [gs1,if_pos rfl,if_neg h]
theorem gs1_last:gs1 [37]=[29]:=by rw [gs1,if_pos rfl]
theorem gs1_len (l:List Int):(gs1 l).length<=l.length:=by
 induction l using gs1.induct with
 | case1=>simp [gs1]
 | case2 x=>simp [gs1]
 | case3 l ih=>rw [gs1_two];simp;omega
 | case4 y l h ih=>rw [gs1_sep y l h];simp at ih ⊢;omega
 | case5 x y l h ih=>rw [gs1_other x _ h];simp at ih ⊢;omega
theorem gs_next (zs:List Int)(i:Nat)(hi:i<zs.length)(h:zs.getD i 0≠37):zs.take (i+1)++gs1 (zs.drop (i+1))=zs.take i++gs1 (zs.drop i):=by
 have hg:zs.getD i 0=zs[i]:=by rw [List.getD_eq_getElem?_getD,List.getElem?_eq_getElem hi];rfl
 rw [hg] at h
 rw [List.drop_eq_getElem_cons hi,gs1_other _ _ h,List.take_succ_eq_append_getElem hi,List.append_assoc]
 rfl
def dropAt (zs:List Int)(i:Nat):List Int:=zs.take i++zs.drop (i+1)
theorem dropAt_len (zs:List Int)(i:Nat)(hi:i<zs.length):(dropAt zs i).length=i+(zs.length-(i+1)):=by simp [dropAt];omega
theorem gs_two (zs:List Int)(i:Nat)(hi:i+1<zs.length)(h:zs.getD i 0=37)(h2:zs.getD (i+1) 0=37):(dropAt zs i).take (i+1)++gs1 ((dropAt zs i).drop (i+1))=zs.take i++gs1 (zs.drop i):=by
 have hg:zs.getD i 0=zs[i]:=by rw [List.getD_eq_getElem?_getD,List.getElem?_eq_getElem (by omega)];rfl
 have hg2:zs.getD (i+1) 0=zs[i+1]:=by rw [List.getD_eq_getElem?_getD,List.getElem?_eq_getElem hi];rfl
 rw [hg] at h
 rw [hg2] at h2
 have e:dropAt zs i=zs.take i++37 :: zs.drop (i+2):=by unfold dropAt;rw [List.drop_eq_getElem_cons hi,h2]
 have hl:(zs.take i).length=i:=by simp;omega
 rw [e,List.drop_eq_getElem_cons (show i<zs.length by omega),List.drop_eq_getElem_cons hi,h,h2,gs1_two]
 have e1:(zs.take i++37 :: zs.drop (i+2)).take (i+1)=zs.take i++[37]:=by
  rw [List.take_append,hl,show i+1-i=1 by omega,List.take_of_length_le (by omega)];rfl
 have e2:(zs.take i++37 :: zs.drop (i+2)).drop (i+1)=zs.drop (i+2):=by
  rw [List.drop_append,hl,show i+1-i=1 by omega,List.drop_of_length_le (by omega)];rfl
 rw [e1,e2]
 simp
theorem gs_sep (zs:List Int)(i:Nat)(hi:i<zs.length)(h:zs.getD i 0=37)(h2:zs.length<=i+1\/zs.getD (i+1) 0≠37):(zs.set i 29).take (i+1)++gs1 ((zs.set i 29).drop (i+1))=zs.take i++gs1 (zs.drop i):=by
 have hg:zs.getD i 0=zs[i]:=by rw [List.getD_eq_getElem?_getD,List.getElem?_eq_getElem hi];rfl
 rw [hg] at h
 have e1:(zs.set i 29).take (i+1)=zs.take i++[29]:=by
  rw [List.take_succ_eq_append_getElem (by simpa using hi),List.take_set_of_le (Nat.le_refl i)]
  simp
 have e2:(zs.set i 29).drop (i+1)=zs.drop (i+1):=List.drop_set_of_lt (by omega)
 rw [e1,e2,List.drop_eq_getElem_cons hi,h]
 have e3:gs1 (37 :: zs.drop (i+1))=29 :: gs1 (zs.drop (i+1)):=by
  rcases Nat.lt_or_ge (i+1) zs.length with h3 | h3
  ·rcases h2 with h2 | h2
   ·omega
   ·have hg2:zs.getD (i+1) 0=zs[i+1]:=by rw [List.getD_eq_getElem?_getD,List.getElem?_eq_getElem h3];rfl
    rw [hg2] at h2
    rw [List.drop_eq_getElem_cons h3,gs1_sep _ _ h2]
  ·rw [List.drop_of_length_le h3,gs1_last];rfl
 rw [e3]
 simp
def setMany (xs:List Value):Nat->List Value->List Value
 | _,[]=>xs
 | o,v :: r=>setMany (xs.set o v) (o+1) r
theorem setMany_eq:∀ (vs:List Value) (o:Nat) (xs:List Value),o+vs.length<=xs.length->setMany xs o vs=xs.take o++vs++xs.drop (o+vs.length):=by
 intro vs
 induction vs with
 | nil=>intro o xs h;simp [setMany]
 | cons v r ih=>
  intro o xs h
  rw [List.length_cons] at h
  rw [setMany,ih (o+1) _ (by simp;omega),List.length_cons]
  have e1:(xs.set o v).take (o+1)=xs.take o++[v]:=by
   rw [List.take_succ_eq_append_getElem (by simp;omega),List.take_set_of_le (Nat.le_refl o)]
   simp
  have e2:(xs.set o v).drop (o+1+r.length)=xs.drop (o+1+r.length):=List.drop_set_of_lt (by omega)
  rw [e1,e2,show o+(r.length+1)=o+1+r.length by omega]
  simp
theorem own_setCells {base g n cap:Nat}{e:TypeId}:∀ (vs:List Value) (o:Nat) (w:World) (xs:List Value),w.ownsRow base e 1 (.slice (some ⟨g,0,none⟩) n cap) n xs->
  (w.setCells g o vs).ownsRow base e 1 (.slice (some ⟨g,0,none⟩) n cap) n (setMany xs o vs)/\w.grownBy (w.setCells g o vs) (some g):=by
 intro vs
 induction vs with
 | nil=>intro o w xs h;exact⟨h,World.grownBy.refl w _⟩
 | cons v r ih=>
  intro o w xs h
  obtain⟨h1,h2⟩:=h.stored o v
  obtain⟨h3,h4⟩:=ih (o+1) _ _ h1
  exact⟨h3,h2.trans h4⟩
theorem own_fewer {w:World}{base g n cap m:Nat}{e:TypeId}{xs:List Value}(h:w.ownsRow base e 1 (.slice (some ⟨g,0,none⟩) n cap) n xs)(hm:m<=n):w.ownsRow base e 1 (.slice (some ⟨g,0,none⟩) m cap) m (xs.take m):=by
 refine⟨by have:=h.1;simp;omega,.inr ?_⟩
 rcases h.2 with⟨h',_⟩ | ⟨g',cap',cur,h',hb,hh,hnc,hcm,hcs,ht⟩
 ·cases h'
 ·simp only [Value.slice.injEq,Option.some.injEq,Addr.mk.injEq,and_true,true_and] at h'
  obtain⟨rfl,rfl⟩:=h'
  refine⟨g,cap,cur,rfl,hb,hh,by omega,hcm,hcs,?_⟩
  rw [<- ht,List.take_take,Nat.mul_one,Nat.mul_one,Nat.min_eq_left hm]
def behind (zs:List Int)(i:Nat):List Value:=nums .u8 (zs.drop (i+1))
theorem behind_len (zs:List Int)(i:Nat):(behind zs i).length=zs.length-(i+1):=by simp [behind,nums]
theorem own_dropAt {w:World}{base g n cap i:Nat}{zs:List Int}(h:w.ownsRow base 5 1 (.slice (some ⟨g,0,none⟩) n cap) n (nums .u8 zs))(hn:zs.length=n)(hi:i<n) :
  (w.setCells g (0+i) (behind zs i)).ownsRow base 5 1 (.slice (some ⟨g,0,none⟩) (i+(n-(i+1))) cap) (dropAt zs i).length (nums .u8 (dropAt zs i))/\w.grownBy (w.setCells g (0+i) (behind zs i)) (some g):=by
 obtain⟨h1,h2⟩:=own_setCells (behind zs i) (0+i) w (nums .u8 zs) h
 refine⟨?_,h2⟩
 have h3:=own_fewer h1 (show i+(n-(i+1))<=n by omega)
 have hnl:(nums .u8 zs).length=n:=by rw [nums_length,hn]
 rw [setMany_eq _ _ _ (by rw [behind_len,hnl];omega),behind_len,hn] at h3
 have e:((nums .u8 zs).take (0+i)++behind zs i++(nums .u8 zs).drop (0+i+(n-(i+1)))).take (i+(n-(i+1)))=nums .u8 (dropAt zs i):=by
  have hl:((nums .u8 zs).take (0+i)++behind zs i).length=i+(n-(i+1)):=by rw [List.length_append,behind_len,List.length_take,hnl,hn];omega
  rw [List.take_append_of_le_length (by omega),List.take_of_length_le (by omega)]
  simp [nums,behind,dropAt,List.map_take]
 rw [e] at h3
 rw [dropAt_len zs i (by omega),hn]
 exact h3
theorem behind_get {w:World}{base g n cap i:Nat}{zs:List Int}(h:w.ownsRow base 5 1 (.slice (some ⟨g,0,none⟩) n cap) n (nums .u8 zs))(hn:zs.length=n)(hi:i<n) :
  ∃ A:Addr,(if cap=i+1 then some (⟨g,0,none⟩:Addr) else some ⟨g,i+1,none⟩)=some A/\∀ j u,(behind zs i)[j]? = some u->w.cell? (A.add j)=some u:=by
 have hcap:n<=cap:=by
  rcases h.2 with⟨h',_⟩ | ⟨g',cap',cur,h',hb,hh,hnc,_⟩
  ·cases h'
  ·simp only [Value.slice.injEq,Option.some.injEq,Addr.mk.injEq,and_true,true_and] at h'
   omega
 by_cases hc:cap=i+1
 ·refine⟨⟨g,0,none⟩,by simp [hc],fun j u hu=>?_⟩
  have h0:(behind zs i).length=0:=by rw [behind_len];omega
  rw [List.length_eq_zero_iff.1 h0] at hu
  simp at hu
 ·refine⟨⟨g,i+1,none⟩,by simp [hc],fun j u hu=>?_⟩
  have hj:j<n-(i+1):=by
   have:=(List.getElem?_eq_some_iff.1 hu).1
   rwa [behind_len,hn] at this
  have:=h.cells (g:=g) rfl (i+1+j) u (by rw [<- hu];simp [behind,nums,List.getElem?_drop])
  rw [Addr.add_lit] at this ⊢
  simpa using this
theorem own_cap {w:World}{base g n cap m:Nat}{e:TypeId}{xs:List Value}(h:w.ownsRow base e 1 (.slice (some ⟨g,0,none⟩) n cap) m xs):n<=cap/\cap<=9223372036854775807/\base<=g:=by
 rcases h.2 with⟨h',_⟩ | ⟨g',cap',cur,h',hb,hh,hnc,hcm,_⟩
 ·cases h'
 ·simp only [Value.slice.injEq,Option.some.injEq,Addr.mk.injEq,and_true,true_and] at h'
  obtain⟨rfl,rfl,rfl⟩:=h'
  exact⟨hnc,by simpa [maxLen] using hcm,hb⟩
theorem own_drew {w:World}{base n:Nat}{e:TypeId}{v:Value}{xs:List Value}(h:w.ownsRow base e 1 v n xs):w.drew.ownsRow base e 1 v n xs:=own_move h fun _ _=>rfl
theorem grown_drew {w y:World}{o:Option Nat}(h:w.drew.grownBy y o):w.grownBy y o:=⟨h.os,h.tape,h.output,h.size,h.block⟩
def sliceLen:Value->Int
 | .slice _ n _=>n
 | _=>0
structure GrowR (w w':World)(v v':Value):Prop where
 by_:w.grownBy w' v.ownBlock
 at_:v'.ownBlock=v.ownBlock\/∃ b,v'.ownBlock=some b/\w.heap.size<=b
theorem GrowR.refl (w:World)(v:Value):GrowR w w v v:=⟨World.grownBy.refl w _,.inl rfl⟩
theorem GrowR.trans {w x y:World}{v v' v2:Value}(h:GrowR w x v v')(k:GrowR x y v' v2):GrowR w y v v2:=by
 have hs:=h.by_.size
 refine⟨⟨k.by_.os.trans h.by_.os,k.by_.tape.trans h.by_.tape,k.by_.output.trans h.by_.output,Nat.le_trans hs k.by_.size,fun i hi h1=>?_⟩,?_⟩
 ·refine (k.by_.block i (by omega) ?_).trans (h.by_.block i hi h1)
  rcases h.at_ with e | ⟨b,e,hb⟩
  ·rw [e];exact h1
  ·rw [e];intro hc;injection hc with hc;omega
 ·rcases k.at_ with e | ⟨b,e,hb⟩
  ·rw [e];exact h.at_
  ·exact .inr ⟨b,e,by omega⟩
theorem GrowR.below {w x y:World}{v v':Value}(h:GrowR w x v v')(hb:Below x.heap.size x y):GrowR w y v v' :=
 ⟨⟨hb.os.trans h.by_.os,hb.tape.trans h.by_.tape,hb.output.trans h.by_.output,Nat.le_trans h.by_.size hb.size,fun i hi h1=>(hb.block i (Nat.lt_of_lt_of_le hi h.by_.size)).trans (h.by_.block i hi h1)⟩,h.at_⟩
def BOwn (w:World)(base:Nat)(v:Value)(xs:List Bool):Prop:=w.ownsRow base 4 1 v xs.length (bools xs)
theorem natBits_last (n k i:Nat)(hi:i<k):natBits (n/2 ^ (k-(i+1))) (i+1)=natBits (n/2 ^ (k-i)) i++[n.testBit (k-1-i)]:=by
 rw [natBits_succ,Nat.div_div_eq_div_mul,show 2 ^ (k-(i+1))*2=2 ^ (k-i) by rw [<- Nat.pow_succ];congr 1;omega]
 congr 2
 rw [Nat.testBit_div_two_pow,show 0+(k-(i+1))=k-1-i by omega]
theorem bit_div (n b:Nat)(hn:n<2147483648):(Go.bits .and .i64 ((n:Int)/2 ^ b) 1==1)=n.testBit b:=by
 have e1:(n:Int)/2 ^ b=((n/2 ^ b:Nat):Int):=by rw [Int.natCast_ediv,Int.natCast_pow];rfl
 have hle:n/2 ^ b<=n:=Nat.div_le_self _ _
 have e2:=i64_and_nat (n/2 ^ b) 1 (by omega) (by omega)
 rw [e1,show (1:Int)=((1:Nat):Int) from rfl,e2,Nat.and_one_is_mod,Nat.testBit_eq_decide_div_mod_eq]
 by_cases h:n/2 ^ b%2=1
 ·rw [h];rfl
 ·rw [show n/2 ^ b%2=0 by omega];rfl
theorem info4b:(Tryz.prog.info? 4).map (fun i=>(i.zero,i.size,i.bytes))=some (some (.bool false),1,1):=by kernel_rfl
theorem bools_len (xs:List Bool):(bools xs).length=xs.length:=by simp [bools]
set_option maxHeartbeats 1000000 in
set_option maxRecDepth 8000 in
theorem qrAdd (w0 w:World)(base n k:Nat)(v:Value)(xs:List Bool)(hO:BOwn w base v xs)(hB:Below base w0 w)(hbase:base<=w.heap.size)(hn:n<2147483648)(hk:k<=60)(hxl:xs.length<=10000000) :
  Calls Tryz.prog 66 #[v,.int .i64 (n:Int),.int .i64 (k:Int)] w fun e w'=>∃ v',e=.returned v'/\BOwn w' base v' (xs++natBits n k)/\Below base w0 w'/\GrowR w w' v v':=by
 have HO:=Aside0.mk (show BOwn w base v (xs++natBits (n/2 ^ (k-0)) 0) by simpa [natBits] using hO)
 have HB:=Aside0.mk hB
 have HBS:=Aside0.mk hbase
 have HG:=Aside0.mk (GrowR.refl w v)
 have HXL:=Aside0.mk hxl
 clear hO hB hbase hxl
 go_enter Tryz.func66,Tryz.ntmps66
 go_wp2
 go_loopw [0,7] (fun vr vi wr=>∃ i:Nat,i<=k/\vi=.int .i64 ((k:Int)-1-(i:Int))/\Aside0 (BOwn wr base vr (xs++natBits (n/2 ^ (k-i)) i))/\Aside0 (Below base w0 wr)/\Aside0 (base<=wr.heap.size)/\Aside0 (GrowR w wr v vr)) (fun _ vi _=>(intOf vi+1).toNat)
 case atStart=>exact⟨0,Nat.zero_le _,by go_num,HO,HB,HBS,HG⟩
 case round=>
  clear HO HB HBS HG
  obtain⟨i,hi,rfl,HO,HB,HBS,HG⟩:=hrel
  by_cases hik:i<k
  ·obtain⟨b,hb⟩:∃ b:Nat,k-1-i=b:=⟨_,rfl⟩
   have hbi:(k:Int)-1-(i:Int)=(b:Int):=by omega
   have hb60:b<60:=by omega
   have HL:=Aside0.mk (natBits_last n k i hik)
   rw [hb] at HL
   rw [hbi]
   have HBI:=Aside0.mk hbi
   clear hb hbi
   have hbit:=bit_div n b hn
   obtain⟨t,ht⟩:∃ t,n.testBit b=t:=⟨_,rfl⟩
   rw [ht] at hbit HL
   clear ht
   go_wp2_with (first | ((with_reducible refine gate_builtin (b:=.append) (xs:=#[.tmp 14,.tmp 20]) rfl ?_);at_builtin;refine print_append (w0:=w0) base rfl (.tmp 14) (.tmp 20) 45 4 (.bool false) 1 rfl Tryz.underlying45 info4b rfl (by decide) _ (bools (xs++natBits (n/2 ^ (k-i)) i)) (.bool t) rfl rfl rfl ?bO HB.out HBS.out ?bL ?_;(case bO=>(rw [bools_len];exact HO.out));(case bL=>(rw [bools_len,List.length_append,natBits_len];have:=HXL.out;omega));intro v1 w1 ho hb hg hat;have nO:=Aside0.mk ho;have nB:=Aside0.mk hb;have nS:=Aside0.mk (Nat.le_trans HBS.out hg.size);have nG:=Aside0.mk (HG.out.trans ⟨hg,hat⟩);clear ho hb hg hat))
   clear hbit
   go_roundw
   case rel=>exact⟨i+1,by omega,by have:=HBI.out;go_num,⟨by rw [HL.out,<- List.append_assoc];have:=nO.out;unfold BOwn;rw [show bools (xs++natBits (n/2 ^ (k-i)) i++[t])=bools (xs++natBits (n/2 ^ (k-i)) i)++[Value.bool t] by simp [bools]];rw [show (xs++natBits (n/2 ^ (k-i)) i++[t]).length=(bools (xs++natBits (n/2 ^ (k-i)) i)++[Value.bool t]).length by simp [bools]];exact this⟩,nB,nS,nG⟩
   case measure=>simp [intOf]<;>omega
  ·have:k=i:=by omega
   subst this
   go_wp2
   go_ret
   exact⟨_,rfl,by have:=HO.out;rwa [Nat.sub_self,Nat.pow_zero,Nat.div_one] at this,HB.out,HG.out⟩
def alSp:List Int:=[32,36,37,42,43,45,46,47,58]
theorem alNum_dig (x:Int)(h:48<=x/\x<=57):(alNum x:Int)=x-48:=by
 obtain⟨n,rfl⟩:∃ n:Nat,x=(n:Int):=⟨x.toNat,by omega⟩
 have hl:∀ k:Fin 10,(alNum ((48+k.val:Nat):Int):Int)=((48+k.val:Nat):Int)-48:=by decide
 have:=hl ⟨n-48,by omega⟩
 simp only [show 48+(n-48)=n by omega] at this
 exact this
theorem alNum_let (x:Int)(h:65<=x/\x<=90):(alNum x:Int)=x-65+10:=by
 obtain⟨n,rfl⟩:∃ n:Nat,x=(n:Int):=⟨x.toNat,by omega⟩
 have hl:∀ k:Fin 26,(alNum ((65+k.val:Nat):Int):Int)=((65+k.val:Nat):Int)-65+10:=by decide
 have:=hl ⟨n-65,by omega⟩
 simp only [show 65+(n-65)=n by omega] at this
 exact this
theorem alNum_mem (x:Int)(h:alNum x<45):∃ y:Nat,y∈alTab/\(y:Int)=x:=by
 have:=alCh_num x h
 refine⟨alTab.getD (alNum x) 0,?_,this⟩
 rw [List.getD_eq_getElem?_getD,List.getElem?_eq_getElem (show alNum x<alTab.length from h)]
 exact List.getElem_mem _
theorem alNum_cases (x:Int)(h:alNum x<45):(48<=x/\x<=57)\/(65<=x/\x<=90)\/x=32\/x=36\/x=37\/x=42\/x=43\/x=45\/x=46\/x=47\/x=58:=by
 obtain⟨y,hy,rfl⟩:=alNum_mem x h
 simp only [alTab,List.mem_cons,List.not_mem_nil,or_false] at hy
 omega
theorem alpha100 (w:World)(x:Int)(h:alNum x<45):Calls Tryz.prog 100 #[.int .u8 x] w fun e w'=>e=.returned (.int .i64 (alNum x:Int))/\w=w':=by
 rcases alNum_cases x h with h1 | h1 | h1
 ·have K:=Aside0.mk (alNum_dig x h1)
  obtain⟨h1,h2⟩:=h1
  clear h
  go_enter Tryz.func100,Tryz.ntmps100
  go_wp2
  go_ret
  exact⟨by rw [K.out];rfl,rfl⟩
 ·have K:=Aside0.mk (alNum_let x h1)
  obtain⟨h1,h2⟩:=h1
  clear h
  go_enter Tryz.func100,Tryz.ntmps100
  go_wp2
  go_ret
  exact⟨by rw [K.out];rfl,rfl⟩
 ·have i0:∀ W,(Instr.index 215 (.agg #[.int .u8 32,.int .u8 36,.int .u8 37,.int .u8 42,.int .u8 43,.int .u8 45,.int .u8 46,.int .u8 47,.int .u8 58]) (.int .i64 0)).run Tryz.prog W=.ok (.int .u8 32) W:=fun _=>by kernel_rfl
  have i1:∀ W,(Instr.index 215 (.agg #[.int .u8 32,.int .u8 36,.int .u8 37,.int .u8 42,.int .u8 43,.int .u8 45,.int .u8 46,.int .u8 47,.int .u8 58]) (.int .i64 1)).run Tryz.prog W=.ok (.int .u8 36) W:=fun _=>by kernel_rfl
  have i2:∀ W,(Instr.index 215 (.agg #[.int .u8 32,.int .u8 36,.int .u8 37,.int .u8 42,.int .u8 43,.int .u8 45,.int .u8 46,.int .u8 47,.int .u8 58]) (.int .i64 2)).run Tryz.prog W=.ok (.int .u8 37) W:=fun _=>by kernel_rfl
  have i3:∀ W,(Instr.index 215 (.agg #[.int .u8 32,.int .u8 36,.int .u8 37,.int .u8 42,.int .u8 43,.int .u8 45,.int .u8 46,.int .u8 47,.int .u8 58]) (.int .i64 3)).run Tryz.prog W=.ok (.int .u8 42) W:=fun _=>by kernel_rfl
  have i4:∀ W,(Instr.index 215 (.agg #[.int .u8 32,.int .u8 36,.int .u8 37,.int .u8 42,.int .u8 43,.int .u8 45,.int .u8 46,.int .u8 47,.int .u8 58]) (.int .i64 4)).run Tryz.prog W=.ok (.int .u8 43) W:=fun _=>by kernel_rfl
  have i5:∀ W,(Instr.index 215 (.agg #[.int .u8 32,.int .u8 36,.int .u8 37,.int .u8 42,.int .u8 43,.int .u8 45,.int .u8 46,.int .u8 47,.int .u8 58]) (.int .i64 5)).run Tryz.prog W=.ok (.int .u8 45) W:=fun _=>by kernel_rfl
  have i6:∀ W,(Instr.index 215 (.agg #[.int .u8 32,.int .u8 36,.int .u8 37,.int .u8 42,.int .u8 43,.int .u8 45,.int .u8 46,.int .u8 47,.int .u8 58]) (.int .i64 6)).run Tryz.prog W=.ok (.int .u8 46) W:=fun _=>by kernel_rfl
  have i7:∀ W,(Instr.index 215 (.agg #[.int .u8 32,.int .u8 36,.int .u8 37,.int .u8 42,.int .u8 43,.int .u8 45,.int .u8 46,.int .u8 47,.int .u8 58]) (.int .i64 7)).run Tryz.prog W=.ok (.int .u8 47) W:=fun _=>by kernel_rfl
  have i8:∀ W,(Instr.index 215 (.agg #[.int .u8 32,.int .u8 36,.int .u8 37,.int .u8 42,.int .u8 43,.int .u8 45,.int .u8 46,.int .u8 47,.int .u8 58]) (.int .i64 8)).run Tryz.prog W=.ok (.int .u8 58) W:=fun _=>by kernel_rfl
  have HI:=Aside0.mk (show ∃ j:Nat,j<9/\alSp.getD j 0=x/\alNum x=36+j by
   rcases h1 with rfl | rfl | rfl | rfl | rfl | rfl | rfl | rfl | rfl
   ·exact⟨0,by decide,rfl,rfl⟩
   ·exact⟨1,by decide,rfl,rfl⟩
   ·exact⟨2,by decide,rfl,rfl⟩
   ·exact⟨3,by decide,rfl,rfl⟩
   ·exact⟨4,by decide,rfl,rfl⟩
   ·exact⟨5,by decide,rfl,rfl⟩
   ·exact⟨6,by decide,rfl,rfl⟩
   ·exact⟨7,by decide,rfl,rfl⟩
   ·exact⟨8,by decide,rfl,rfl⟩)
  obtain⟨N,hN⟩:∃ N,alNum x=N:=⟨_,rfl⟩
  rw [hN] at HI ⊢
  have t1:(decide (x≥48) && decide (x<=57))=false:=by rcases h1 with rfl | rfl | rfl | rfl | rfl | rfl | rfl | rfl | rfl<;>rfl
  have t2:(decide (x≥65) && decide (x<=90))=false:=by rcases h1 with rfl | rfl | rfl | rfl | rfl | rfl | rfl | rfl | rfl<;>rfl
  clear h hN
  have hx:(32<=x/\x<=47)\/(58<=x/\x<=58):=by omega
  clear h1 t1 t2
  rcases hx with⟨hx1,hx2⟩ | ⟨hx1,hx2⟩
  all_goals
   go_enter Tryz.func100,Tryz.ntmps100
   go_wp2
   go_loop [27] (fun v=>∃ i:Nat,v=.int .i64 (i:Int)/\Aside0 (∃ j:Nat,i<=j/\j<9/\alSp.getD j 0=x/\N=36+j)) (fun v=>(9-intOf v).toNat)
   case atStart=>exact⟨0,rfl,by obtain⟨j,h1,h2,h3⟩:=HI.out;exact⟨⟨j,Nat.zero_le _,h1,h2,h3⟩⟩⟩
   case round=>
    clear HI
    obtain⟨i,rfl,HI⟩:=hrel
    have hi9:i<9:=by obtain⟨j,h1,h2,_⟩:=HI.out;omega
    have hcs:i=0\/i=1\/i=2\/i=3\/i=4\/i=5\/i=6\/i=7\/i=8:=by omega
    obtain⟨y,hy⟩:∃ y,alSp.getD i 0=y:=⟨_,rfl⟩
    have idx:∀ W,(Instr.index 215 (.agg #[.int .u8 32,.int .u8 36,.int .u8 37,.int .u8 42,.int .u8 43,.int .u8 45,.int .u8 46,.int .u8 47,.int .u8 58]) (.int .i64 (i:Int))).run Tryz.prog W=.ok (.int .u8 y) W:=by
     intro W
     rw [<- hy]
     rcases hcs with rfl | rfl | rfl | rfl | rfl | rfl | rfl | rfl | rfl
     ·exact i0 W
     ·exact i1 W
     ·exact i2 W
     ·exact i3 W
     ·exact i4 W
     ·exact i5 W
     ·exact i6 W
     ·exact i7 W
     ·exact i8 W
    have HY:=Aside0.mk hy
    clear hcs hy
    by_cases hxy:x=y
    ·have HN:=Aside0.mk (show N=36+i by
      obtain⟨j,h1,h2,h3,h4⟩:=HI.out
      have hinj:∀ a:Fin 9,∀ b:Fin 9,alSp.getD a.val 0=alSp.getD b.val 0->a=b:=by decide
      have:=hinj ⟨i,hi9⟩ ⟨j,h2⟩ (by rw [HY.out,<- hxy];exact h3.symm)
      have:i=j:=congrArg Fin.val this
      omega)
     have hb:(x==y)=true:=beq_iff_eq.2 hxy
     clear hxy
     go_wp2
     go_ret
     exact⟨by rw [HN.out];go_num,rfl⟩
    ·have hb:(x==y)=false:=beq_eq_false_iff_ne.2 hxy
     have HI2:=Aside0.mk (show ∃ j:Nat,i+1<=j/\j<9/\alSp.getD j 0=x/\N=36+j by
      obtain⟨j,h1,h2,h3,h4⟩:=HI.out
      refine⟨j,?_,h2,h3,h4⟩
      rcases Nat.lt_or_ge i j with h5 | h5
      ·exact h5
      ·exfalso
       have:i=j:=by omega
       subst this
       exact hxy (by rw [<- h3];exact HY.out))
     clear hxy
     go_wp2
     go_round
     case rel=>exact⟨i+1,by go_num,HI2⟩
     case measure=>simp [intOf]<;>omega
theorem cnt58 (w:World)(m v:Nat)(x:Int)(hm:m=1\/m=2\/m=4)(hx:x=(m:Int))(hv:1<=v/\v<=40) :
  Calls Tryz.prog 58 #[.int .i64 x,.int .i64 (v:Int)] w fun e w'=>e=.returned (.tuple #[.int .i64 (cntBits m v:Int),.bool true])/\Below w.heap.size w w':=by
 have hcs:(v<=9)\/(10<=v/\v<=26)\/(27<=v):=by omega
 subst hx
 have HC:=Aside0.mk (show (cntBits m v:Int)=rd (rowBits m) (verOff v:Nat) from (row_cnt m v hm).symm)
 obtain⟨C,hC⟩:∃ C,cntBits m v=C:=⟨_,rfl⟩
 rw [hC] at HC ⊢
 have HB:=Aside0.mk (below_alloc (Below.refl w.heap.size w) (.cells #[.int .i64 0,.int .i64 0,.int .i64 0] 3))
 clear hC
 rcases hm with rfl | rfl | rfl
 all_goals
  rcases hcs with h1 | ⟨h1,h2⟩ | h1
  all_goals
   go_enter Tryz.func58,Tryz.ntmps58
   go_wp2
   go_ret2
   refine⟨?_,below_alloc (Below.refl _ _) _⟩
   rw [HC.out]
   first
    | (rw [show verOff v=0 by unfold verOff;rw [if_pos (by omega)]];rfl)
    | (rw [show verOff v=1 by unfold verOff;rw [if_neg (by omega),if_pos (by omega)]];rfl)
    | (rw [show verOff v=2 by unfold verOff;rw [if_neg (by omega),if_neg (by omega)]];rfl)
structure DMem (w0 w wr:World)(v v0:Value)(xs:List Bool)(p:Nat)(cs:Array Value):Prop where
 own:BOwn wr w0.heap.size v0 xs
 bel:Below w0.heap.size w0 wr
 sz:w0.heap.size<=wr.heap.size
 gr:GrowR w wr v v0
 box:Blk wr p 98 cs
theorem DMem.drew {w0 w wr:World}{v v0:Value}{xs:List Bool}{p:Nat}{cs:Array Value}(h:DMem w0 w wr v v0 xs p cs):DMem w0 w wr.drew v v0 xs p cs :=
 ⟨own_move h.own fun _ _=>rfl,⟨h.bel.os,h.bel.tape,h.bel.output,h.bel.size,h.bel.block⟩,h.sz,h.gr.below ⟨rfl,rfl,rfl,Nat.le_refl _,fun _ _=>rfl⟩,h.box⟩
theorem alNum_no (x:Int)(h0:32<=x)(h1:x<=90)(h:¬ alNum x<45):((32<=x/\x<=47)\/(59<=x/\x<=64))/\∀ j:Nat,j<9->alSp.getD j 0≠x:=by
 obtain⟨n,rfl⟩:∃ n:Nat,x=(n:Int):=⟨x.toNat,by omega⟩
 have hl:∀ k:Fin 59,¬ alNum ((32+k.val:Nat):Int)<45->((32+k.val<=47)\/(59<=32+k.val/\32+k.val<=64))/\∀ j:Fin 9,alSp.getD j.val 0≠((32+k.val:Nat):Int):=by decide +kernel
 have hk:=hl ⟨n-32,by omega⟩
 simp only [show 32+(n-32)=n by omega] at hk
 obtain⟨k1,k2⟩:=hk h
 exact⟨by omega,fun j hj=>k2 ⟨j,hj⟩⟩
theorem alphaNo (w:World)(x:Int)(h0:32<=x)(h1:x<=90)(h:¬ alNum x<45):Calls Tryz.prog 100 #[.int .u8 x] w fun e w'=>e=.returned (.int .i64 (-1))/\w=w':=by
 obtain⟨hr,hn⟩:=alNum_no x h0 h1 h
 have i0:∀ W,(Instr.index 215 (.agg #[.int .u8 32,.int .u8 36,.int .u8 37,.int .u8 42,.int .u8 43,.int .u8 45,.int .u8 46,.int .u8 47,.int .u8 58]) (.int .i64 0)).run Tryz.prog W=.ok (.int .u8 32) W:=fun _=>by kernel_rfl
 have i1:∀ W,(Instr.index 215 (.agg #[.int .u8 32,.int .u8 36,.int .u8 37,.int .u8 42,.int .u8 43,.int .u8 45,.int .u8 46,.int .u8 47,.int .u8 58]) (.int .i64 1)).run Tryz.prog W=.ok (.int .u8 36) W:=fun _=>by kernel_rfl
 have i2:∀ W,(Instr.index 215 (.agg #[.int .u8 32,.int .u8 36,.int .u8 37,.int .u8 42,.int .u8 43,.int .u8 45,.int .u8 46,.int .u8 47,.int .u8 58]) (.int .i64 2)).run Tryz.prog W=.ok (.int .u8 37) W:=fun _=>by kernel_rfl
 have i3:∀ W,(Instr.index 215 (.agg #[.int .u8 32,.int .u8 36,.int .u8 37,.int .u8 42,.int .u8 43,.int .u8 45,.int .u8 46,.int .u8 47,.int .u8 58]) (.int .i64 3)).run Tryz.prog W=.ok (.int .u8 42) W:=fun _=>by kernel_rfl
 have i4:∀ W,(Instr.index 215 (.agg #[.int .u8 32,.int .u8 36,.int .u8 37,.int .u8 42,.int .u8 43,.int .u8 45,.int .u8 46,.int .u8 47,.int .u8 58]) (.int .i64 4)).run Tryz.prog W=.ok (.int .u8 43) W:=fun _=>by kernel_rfl
 have i5:∀ W,(Instr.index 215 (.agg #[.int .u8 32,.int .u8 36,.int .u8 37,.int .u8 42,.int .u8 43,.int .u8 45,.int .u8 46,.int .u8 47,.int .u8 58]) (.int .i64 5)).run Tryz.prog W=.ok (.int .u8 45) W:=fun _=>by kernel_rfl
 have i6:∀ W,(Instr.index 215 (.agg #[.int .u8 32,.int .u8 36,.int .u8 37,.int .u8 42,.int .u8 43,.int .u8 45,.int .u8 46,.int .u8 47,.int .u8 58]) (.int .i64 6)).run Tryz.prog W=.ok (.int .u8 46) W:=fun _=>by kernel_rfl
 have i7:∀ W,(Instr.index 215 (.agg #[.int .u8 32,.int .u8 36,.int .u8 37,.int .u8 42,.int .u8 43,.int .u8 45,.int .u8 46,.int .u8 47,.int .u8 58]) (.int .i64 7)).run Tryz.prog W=.ok (.int .u8 47) W:=fun _=>by kernel_rfl
 have i8:∀ W,(Instr.index 215 (.agg #[.int .u8 32,.int .u8 36,.int .u8 37,.int .u8 42,.int .u8 43,.int .u8 45,.int .u8 46,.int .u8 47,.int .u8 58]) (.int .i64 8)).run Tryz.prog W=.ok (.int .u8 58) W:=fun _=>by kernel_rfl
 have HN:=Aside0.mk hn
 clear h h0 h1 hn
 rcases hr with⟨hx1,hx2⟩ | ⟨hx1,hx2⟩
 all_goals
  go_enter Tryz.func100,Tryz.ntmps100
  go_wp2
  go_loop [27] (fun v=>∃ i:Nat,v=.int .i64 (i:Int)/\i<=9) (fun v=>(9-intOf v).toNat)
  case atStart=>exact⟨0,rfl,by omega⟩
  case round=>
   obtain⟨i,rfl,hi⟩:=hrel
   by_cases hi9:i<9
   ·have hcs:i=0\/i=1\/i=2\/i=3\/i=4\/i=5\/i=6\/i=7\/i=8:=by omega
    obtain⟨y,hy⟩:∃ y,alSp.getD i 0=y:=⟨_,rfl⟩
    have hxy:=HN.out i hi9
    rw [hy] at hxy
    have idx:∀ W,(Instr.index 215 (.agg #[.int .u8 32,.int .u8 36,.int .u8 37,.int .u8 42,.int .u8 43,.int .u8 45,.int .u8 46,.int .u8 47,.int .u8 58]) (.int .i64 (i:Int))).run Tryz.prog W=.ok (.int .u8 y) W:=by
     intro W
     rw [<- hy]
     rcases hcs with rfl | rfl | rfl | rfl | rfl | rfl | rfl | rfl | rfl
     ·exact i0 W
     ·exact i1 W
     ·exact i2 W
     ·exact i3 W
     ·exact i4 W
     ·exact i5 W
     ·exact i6 W
     ·exact i7 W
     ·exact i8 W
    have hb:(x==y)=false:=beq_eq_false_iff_ne.2 (Ne.symm hxy)
    clear hcs hy hxy
    go_wp2
    go_round
    case rel=>exact⟨i+1,by go_num,by omega⟩
    case measure=>simp [intOf]<;>omega
   ·have:i=9:=by omega
    subst this
    go_wp2
    go_ret
    exact⟨rfl,rfl⟩
theorem alCh_range:∀ k:Fin 45,32<=alCh k.val/\alCh k.val<=90:=by decide
theorem alphaAny (w:World)(x:Int)(h0:32<=x)(h1:x<=90):Calls Tryz.prog 100 #[.int .u8 x] w fun e w'=>e=.returned (.int .i64 (if alNum x<45 then (alNum x:Int) else -1))/\w=w':=by
 by_cases h:alNum x<45
 ·rw [if_pos h];exact alpha100 w x h
 ·rw [if_neg h];exact alphaNo w x h0 h1 h
set_option maxHeartbeats 1000000 in
theorem alphaByte (w:World)(n:Nat)(hn:n<45):Calls Tryz.prog 52 #[.int .i64 (n:Int)] w fun e w'=>e=.returned (.int .u8 (alCh n))/\w=w':=by
 have hr:=alCh_range ⟨n,hn⟩
 obtain⟨c,hc⟩:∃ c:Nat,alCh n=(c:Int):=⟨(alCh n).toNat,by have:=hr.1;simp only at this;omega⟩
 have hnum:=alNum_look ⟨n,hn⟩
 simp only [hc] at hr hnum
 rw [hc]
 have HNUM:=Aside0.mk hnum
 have HCH:=Aside0.mk hc
 obtain⟨hr1,hr2⟩:=hr
 clear hc hnum
 go_enter Tryz.func52,Tryz.ntmps52
 go_wp2
 go_loopw [3] (fun v wr=>∃ i:Nat,v=.int .u8 (i:Int)/\32<=i/\i<=c/\Aside0 (wr=w)) (fun v _=>(91-intOf v).toNat)
 case atStart=>exact⟨32,rfl,by omega,by omega,⟨rfl⟩⟩
 case round=>
  obtain⟨i,rfl,h32,hic,HW⟩:=hrel
  have ka:=alphaAny wr (i:Int) (by omega) (by omega)
  by_cases he:i=c
  ·subst he
   rw [if_pos (by rw [HNUM.out];exact hn),HNUM.out] at ka
   go_wp2_with (go_at_call 100;refine ka.mono ?_;rintro e w' ⟨rfl,rfl⟩)
   go_ret
   exact⟨rfl,HW.out.symm⟩
  ·obtain⟨a,ha⟩:∃ a:Int,(if alNum (i:Int)<45 then (alNum (i:Int):Int) else -1)=a:=⟨_,rfl⟩
   have hne:a≠(n:Int):=by
    rw [<- ha]
    split
    ·rename_i h
     intro h2
     have h3:alNum (i:Int)=n:=by omega
     have h4:=alCh_num (i:Int) h
     rw [h3,HCH.out] at h4
     omega
    ·omega
   rw [ha] at ka
   have hb:(a==(n:Int))=false:=beq_eq_false_iff_ne.2 hne
   clear ha hne
   go_wp2_with (go_at_call 100;refine ka.mono ?_;rintro e w' ⟨rfl,rfl⟩)
   go_roundw
   case rel=>exact⟨i+1,by go_num,by omega,by omega,HW⟩
   case measure=>simp [intOf]<;>omega
theorem numSeg_bd (bs:List Nat):∀ (cnt pos:Nat) (acc ys:List Int) (p:Nat),numSeg bs pos cnt acc=some (ys,p)->pos<=8*bs.length->ys.length+pos<=acc.length+p/\p<=8*bs.length/\pos<=p:=by
 intro cnt
 induction cnt using Nat.strongRecOn with
 | ind cnt ih=>
  intro pos acc ys p h hp
  rw [numSeg] at h
  split at h
  ·split at h
   ·rename_i h3 hr
    have:=ih (cnt-3) (by omega) _ _ _ _ h hr.1
    simp only [List.length_append,List.length_cons,List.length_nil] at this
    omega
   ·cases h
  ·split at h
   ·split at h
    ·rename_i hr
     injection h with h;injection h with h1 h2
     subst h1;subst h2
     simp only [List.length_append,List.length_cons,List.length_nil]
     omega
    ·cases h
   ·split at h
    ·split at h
     ·rename_i hr
      injection h with h;injection h with h1 h2
      subst h1;subst h2
      simp only [List.length_append,List.length_cons,List.length_nil]
      omega
     ·cases h
    ·injection h with h;injection h with h1 h2
     subst h1;subst h2
     omega
theorem alSeg_bd (bs:List Nat):∀ (cnt pos:Nat) (acc ys:List Int) (p:Nat),alSeg bs pos cnt acc=some (ys,p)->pos<=8*bs.length->ys.length+pos<=acc.length+p/\p<=8*bs.length/\acc.length<=ys.length/\pos<=p:=by
 intro cnt
 induction cnt using Nat.strongRecOn with
 | ind cnt ih=>
  intro pos acc ys p h hp
  rw [alSeg] at h
  split at h
  ·split at h
   ·rename_i h3 hr
    have:=ih (cnt-2) (by omega) _ _ _ _ h hr.1
    simp only [List.length_append,List.length_cons,List.length_nil] at this
    omega
   ·cases h
  ·split at h
   ·split at h
    ·rename_i hr
     injection h with h;injection h with h1 h2
     subst h1;subst h2
     simp only [List.length_append,List.length_cons,List.length_nil]
     omega
    ·cases h
   ·injection h with h;injection h with h1 h2
    subst h1;subst h2
    omega
theorem cntBits_le (m v:Nat):1<=cntBits m v/\cntBits m v<=16:=by
 unfold cntBits
 split
 ·split
  ·omega
  ·split<;>omega
 ·split
  ·split
   ·omega
   ·split<;>omega
  ·split<;>omega
structure PS.Fits (st:PS)(L:Nat):Prop where
 pos:st.pos<=8*L
 out:st.out.length<=st.pos
 segs:st.segs.length<=st.pos
theorem alOut_len (fc:Bool)(out ys:List Int)(h:out.length<=ys.length):(alOut fc out ys).length<=ys.length:=by
 unfold alOut
 split
 ·have:=gs1_len (ys.drop out.length)
  rw [List.length_append]
  rw [List.length_drop] at this
  omega
 ·omega
theorem alSeg_pre (bs:List Nat):∀ (cnt pos:Nat) (acc ys:List Int) (p:Nat),alSeg bs pos cnt acc=some (ys,p)->ys.take acc.length=acc:=by
 intro cnt
 induction cnt using Nat.strongRecOn with
 | ind cnt ih=>
  intro pos acc ys p h
  rw [alSeg] at h
  split at h
  ·split at h
   ·have:=ih (cnt-2) (by omega) _ _ _ _ h
    have h2:=congrArg (List.take acc.length) this
    rw [List.take_take,Nat.min_eq_left (by simp),List.append_assoc,List.take_left] at h2
    exact h2
   ·cases h
  ·split at h
   ·split at h
    ·injection h with h;injection h with h1 h2
     subst h1
     exact List.take_left
    ·cases h
   ·injection h with h;injection h with h1 h2
    subst h1
    exact List.take_length
theorem Rd.inv {bs:List Nat}{v:Nat}{st:PS}{R:Option PS}(h:Rd bs v st R)(F:st.Fits bs.length) :
  (8*bs.length<st.pos+4/\R=some st)\/
  (st.pos+4<=8*bs.length/\rdBits bs st.pos 4=0/\R=some { st with pos:=st.pos+4 })\/
  (st.pos+4<=8*bs.length/\rdBits bs st.pos 4=5/\∃ st',st'={ st with pos:=st.pos+4,fc:=true }/\Rd bs v st' R/\st'.Fits bs.length)\/
  (st.pos+20<=8*bs.length/\rdBits bs st.pos 4=3/\∃ st',st'={ st with pos:=st.pos+20,sq:=rdBits bs (st.pos+4) 8,par:=rdBits bs (st.pos+12) 8 }/\Rd bs v st' R/\st'.Fits bs.length)\/
  (∃ m,st.pos+4<=8*bs.length/\rdBits bs st.pos 4=m/\(m=1\/m=2\/m=4)/\8*bs.length<st.pos+4+cntBits m v/\R=none)\/
  (rdBits bs st.pos 4=1/\st.pos+4+cntBits 1 v<=8*bs.length/\∃ ys p,numSeg bs (st.pos+4+cntBits 1 v) (rdBits bs (st.pos+4) (cntBits 1 v)) st.out=some (ys,p)/\∃ st',st'={ st with pos:=p,out:=ys }/\Rd bs v st' R/\st'.Fits bs.length/\st.pos<p)\/
  (rdBits bs st.pos 4=1/\st.pos+4+cntBits 1 v<=8*bs.length/\numSeg bs (st.pos+4+cntBits 1 v) (rdBits bs (st.pos+4) (cntBits 1 v)) st.out=none/\R=none)\/
  (rdBits bs st.pos 4=2/\st.pos+4+cntBits 2 v<=8*bs.length/\∃ ys p,alSeg bs (st.pos+4+cntBits 2 v) (rdBits bs (st.pos+4) (cntBits 2 v)) st.out=some (ys,p)/\∃ st',st'={ st with pos:=p,out:=alOut st.fc st.out ys }/\Rd bs v st' R/\st'.Fits bs.length/\st.pos<p)\/
  (rdBits bs st.pos 4=2/\st.pos+4+cntBits 2 v<=8*bs.length/\alSeg bs (st.pos+4+cntBits 2 v) (rdBits bs (st.pos+4) (cntBits 2 v)) st.out=none/\R=none)\/
  (rdBits bs st.pos 4=4/\st.pos+4+cntBits 4 v<=8*bs.length/\∃ n,rdBits bs (st.pos+4) (cntBits 4 v)=n/\st.pos+4+cntBits 4 v+8*n<=8*bs.length/\
   ∃ st',st'={ st with pos:=st.pos+4+cntBits 4 v+8*n,out:=st.out++byteSeg bs (st.pos+4+cntBits 4 v) n,segs:=st.segs++[byteSeg bs (st.pos+4+cntBits 4 v) n] }/\Rd bs v st' R/\st'.Fits bs.length)\/
  (rdBits bs st.pos 4=4/\st.pos+4+cntBits 4 v<=8*bs.length/\∃ n,rdBits bs (st.pos+4) (cntBits 4 v)=n/\8*bs.length<st.pos+4+cntBits 4 v+8*n/\R=none):=by
 obtain⟨f1,f2,f3⟩:=F
 have c1:=cntBits_le 1 v
 have c2:=cntBits_le 2 v
 have c4:=cntBits_le 4 v
 cases h with
 | done _ h1 h2=>exact .inl ⟨h2,rfl⟩
 | stop _ h1 h2=>exact .inr (.inl ⟨h1,h2,rfl⟩)
 | fnc _ _ h1 h2 h3=>exact .inr (.inr (.inl ⟨h1,h2,_,rfl,h3,h1,by show st.out.length<=st.pos+4;omega,by show st.segs.length<=st.pos+4;omega⟩))
 | part _ _ h1 h2 h3=>exact .inr (.inr (.inr (.inl ⟨h1,h2,_,rfl,h3,h1,by show st.out.length<=st.pos+20;omega,by show st.segs.length<=st.pos+20;omega⟩)))
 | short _ m h1 h2 h3 h4=>exact .inr (.inr (.inr (.inr (.inl ⟨m,h1,h2,h3,h4,rfl⟩))))
 | num _ ys p _ h1 h2 h3 h4=>
  have hb:=numSeg_bd bs _ _ _ _ _ h3 h2
  refine .inr (.inr (.inr (.inr (.inr (.inl ⟨h1,h2,ys,p,h3,_,rfl,h4,⟨hb.2.1,?_,?_⟩,?_⟩)))))
  ·show ys.length<=p;omega
  ·show st.segs.length<=p;omega
  ·omega
 | numBad _ h1 h2 h3=>exact .inr (.inr (.inr (.inr (.inr (.inr (.inl ⟨h1,h2,h3,rfl⟩))))))
 | al _ ys p _ h1 h2 h3 h4=>
  have hb:=alSeg_bd bs _ _ _ _ _ h3 h2
  have hl:=alOut_len st.fc st.out ys hb.2.2.1
  refine .inr (.inr (.inr (.inr (.inr (.inr (.inr (.inl ⟨h1,h2,ys,p,h3,_,rfl,h4,⟨hb.2.1,?_,?_⟩,?_⟩)))))))
  ·show (alOut st.fc st.out ys).length<=p;omega
  ·show st.segs.length<=p;omega
  ·omega
 | alBad _ h1 h2 h3=>exact .inr (.inr (.inr (.inr (.inr (.inr (.inr (.inr (.inl ⟨h1,h2,h3,rfl⟩))))))))
 | byte _ n _ h1 h2 h3 h4 h5=>
  refine .inr (.inr (.inr (.inr (.inr (.inr (.inr (.inr (.inr (.inl ⟨h1,h2,n,h3,h4,_,rfl,h5,h4,?_,?_⟩)))))))))
  ·show (st.out++byteSeg _ _ _).length<=st.pos+4+cntBits 4 v+8*n;rw [List.length_append];simp only [byteSeg,List.length_map,List.length_range];omega
  ·show (st.segs++[_]).length<=st.pos+4+cntBits 4 v+8*n;rw [List.length_append,List.length_singleton];omega
 | byteBad _ n h1 h2 h3 h4=>exact .inr (.inr (.inr (.inr (.inr (.inr (.inr (.inr (.inr (.inr ⟨h1,h2,n,h3,h4,rfl⟩)))))))))
end Go.Proofs.YtgccjgpdjkhpdaaGreat.B
