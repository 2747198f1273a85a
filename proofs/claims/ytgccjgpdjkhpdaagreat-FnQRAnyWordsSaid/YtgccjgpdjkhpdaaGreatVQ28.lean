import Derived.Test.YtgccjgpdjkhpdaaGreatVQ27
/-! Own texts of this claim, part 28. -/
namespace Go.Proofs.YtgccjgpdjkhpdaaGreat.B
open Go.RowKit Go.Proofs.YtgccjgpdjkhpdaaGreatW.PrintWords Go.Proofs.YtgccjgpdjkhpdaaGreatW.PrintLast Go.Proofs.YtgccjgpdjkhpdaaGreatW.PrintMore
set_option linter.unusedVariables false
set_option linter.unusedSimpArgs false
structure PMem (w wr:World)(B0 s g:Nat)(bs:List Nat)(pos:Nat)(v11 v12:Value)(out:List Int)(qs:List Nat)(segs:List (List Int)):Prop where
 own:wr.ownsRow B0 5 1 v11 out.length (nums .u8 out)
 segs:SegsAt wr B0 v12 v11 qs segs
 src:SrcAt wr s g bs pos
 bel:Below B0 w wr
 sz:B0<=wr.heap.size
theorem own_under {w w':World}{base size n:Nat}{e:TypeId}{v:Value}{xs:List Value}(h:w.ownsRow base e size v n xs)(hb:Below w.heap.size w w'):w'.ownsRow base e size v n xs:=own_move h fun k hk=>by
 obtain⟨cs,hc⟩:=own_blk h k hk
 exact hb.block k hc.lt
theorem SegsAt.under {w w':World}{base:Nat}{vs v:Value}{qs:List Nat}{segs:List (List Int)}(h:SegsAt w base vs v qs segs)(hb:Below w.heap.size w w'):SegsAt w' base vs v qs segs :=
 ⟨h.len,own_under h.own hb,fun i hi=>by obtain⟨h1,h2,h3⟩:=h.blk i hi;exact⟨h1,h2.below hb h2.lt,h3⟩⟩
theorem PMem.under {w wr w':World}{B0 s g:Nat}{bs:List Nat}{pos:Nat}{v11 v12:Value}{out:List Int}{qs:List Nat}{segs:List (List Int)}(h:PMem w wr B0 s g bs pos v11 v12 out qs segs)(hb:Below wr.heap.size wr w'):PMem w w' B0 s g bs pos v11 v12 out qs segs :=
 ⟨own_under h.own hb,h.segs.under hb,h.src.move (hb.block s h.src.1.lt) (hb.block g h.src.2.lt),h.bel.trans (hb.mono h.sz),Nat.le_trans h.sz hb.size⟩
theorem drawn_under {w w':World}(h:Drawn w w'):Below w.heap.size w w':=by
 obtain⟨n,rfl⟩:=h
 exact pw_below_drewN (Below.refl _ _) n
theorem PMem.turn {w wr w':World}{B0 s g:Nat}{bs:List Nat}{pos pos':Nat}{v11 v12:Value}{out:List Int}{qs:List Nat}{segs:List (List Int)}(h:PMem w wr B0 s g bs pos v11 v12 out qs segs)(hs:SrcAt w' s g bs pos')(ht:Turn wr w' s)(hb:B0<=s):PMem w w' B0 s g bs pos' v11 v12 out qs segs:=by
 refine⟨own_turn h.own h.src.1 ht,⟨h.segs.len,own_move h.segs.own fun k hk=>?_,fun i hi=>?_⟩,hs,h.bel.trans (ht.below hb),by rw [ht.size];exact h.sz⟩
 ·obtain⟨cs,hc⟩:=own_blk h.segs.own k hk
  exact ht.block k (blk_ne hc h.src.1 (by decide))
 ·obtain⟨h1,h2,h3⟩:=h.segs.blk i hi
  exact⟨h1,ht.blk h2 (blk_ne h2 h.src.1 (by decide)),h3⟩
section
variable {w wr:World} {B0 s g:Nat} {bs:List Nat} {pos:Nat} {v11 v12:Value} {out:List Int} {qs:List Nat} {segs:List (List Int)}
theorem leftP {r:Nat}(h:PMem w wr B0 s g bs pos v11 v12 out qs segs)(hp:pos<=8*bs.length)(hl:bs.length<=100000)(hr:8*bs.length-pos=r) :
  Calls Tryz.prog 106 #[.pointer (some ⟨s,0,none⟩)] wr fun e w'=>e=.returned (.int .i64 (r:Int))/\PMem w w' B0 s g bs pos v11 v12 out qs segs:=by
 refine (srcLeft wr s g pos bs h.src hp hl).mono ?_
 rintro e w' ⟨rfl,hd⟩
 exact⟨by rw [hr],h.under (drawn_under hd)⟩
theorem readP {k n:Nat}{y:Int}(h:PMem w wr B0 s g bs pos v11 v12 out qs segs)(hn:rdBits bs pos k=n)(hy:y=(k:Int))(hp:pos+k<=8*bs.length)(hl:bs.length<=100000)(hk:1<=k)(hk2:k<=32)(hx:AllLt 8 bs)(hb:B0<=s) :
  Calls Tryz.prog 107 #[.pointer (some ⟨s,0,none⟩),.int .i64 y] wr fun e w'=>e=.returned (.tuple #[.int .i64 (n:Int),.nilIface])/\PMem w w' B0 s g bs (pos+k) v11 v12 out qs segs:=by
 subst hy
 refine (readBits wr s g pos k bs h.src hp hl hk hk2 hx).mono ?_
 rintro e w' ⟨rfl,hs,ht⟩
 exact⟨by rw [hn],h.turn hs ht hb⟩
theorem readP_bad {k:Nat}(h:PMem w wr B0 s g bs pos v11 v12 out qs segs)(hp:pos<=8*bs.length)(hp2:8*bs.length<pos+k)(hl:bs.length<=100000)(hk:1<=k)(hk2:k<=32) :
  Calls Tryz.prog 107 #[.pointer (some ⟨s,0,none⟩),.int .i64 (k:Int)] wr fun e w'=>(∃ x,e=.returned (.tuple #[.int .i64 0,.iface 216 x]))/\Below B0 w w'/\B0<=w'.heap.size:=by
 refine (readBits_bad wr s g pos k bs h.src hp hp2 hl hk hk2).mono ?_
 rintro e w' ⟨⟨x,rfl⟩,hb⟩
 exact⟨⟨x,rfl⟩,h.bel.trans (hb.mono h.sz),Nat.le_trans h.sz hb.size⟩
theorem wrapP {t:TypeId}{x:Value}(hb:Below B0 w wr)(hz:B0<=wr.heap.size):Calls Tryz.prog 87 #[.iface t x] wr fun e w'=>(∃ y,e=.returned (.iface 208 y))/\Below B0 w w':=by
 refine (wrapFmt wr t x).mono ?_
 rintro e w' ⟨⟨y,rfl⟩,hb'⟩
 exact⟨⟨y,rfl⟩,hb.trans (hb'.mono hz)⟩
theorem cntP {pv v m:Nat}{x:Int}(h:PMem w wr B0 s g bs pos v11 v12 out qs segs){w0:World}(hV:VerAt w0 pv (v:Int) (verRow v))(hw:Below w0.heap.size w0 wr)(hv:1<=v/\v<=40)(hm:m=1\/m=2\/m=4)(hxm:x=(m:Int)) :
  Calls Tryz.prog 111 #[.int .i64 x,.pointer (some ⟨pv,0,none⟩)] wr fun e w'=>e=.returned (.int .i64 (cntBits m v:Int))/\PMem w w' B0 s g bs pos v11 v12 out qs segs:=by
 subst hxm
 refine (cntOf wr pv v m _ (hV.below hw (Nat.le_refl _)) hv hm).mono ?_
 rintro e w' ⟨rfl,hb⟩
 exact⟨rfl,h.under hb⟩
theorem PMem.seg {w':World}{v':Value}{ys:List Int}{p:Nat}(h:PMem w wr B0 s g bs pos v11 v12 out qs segs)(h1:w'.ownsRow B0 5 1 v' ys.length (nums .u8 ys))(h2:SrcAt w' s g bs p)(h3:Below B0 w w')(h4:Grow wr w' s v11 v'):PMem w w' B0 s g bs p v' v12 ys qs segs :=
 ⟨h1,h.segs.grow h.own h.src.1 h4,h2,h3,Nat.le_trans h.sz h4.size⟩
theorem numP {cnt p:Nat}{ys:List Int}(h:PMem w wr B0 s g bs pos v11 v12 out qs segs)(hr:numSeg bs pos cnt out=some (ys,p))(hg:g<B0)(hb:B0<=s)(hx:AllLt 8 bs)(hl:bs.length<=100000)(hc:cnt<=100000)(ho:out.length<=1000000)(hp:pos<=8*bs.length) :
  Calls Tryz.prog 113 #[.pointer (some ⟨s,0,none⟩),v11,.int .i64 (cnt:Int)] wr fun e w'=>∃ v',e=.returned (.tuple #[v',.nilIface])/\PMem w w' B0 s g bs p v' v12 ys qs segs:=by
 refine (numWalk w wr B0 s g pos cnt bs v11 out h.src hg hb h.own h.bel h.sz hx hl hc ho hp).mono ?_
 rw [hr]
 rintro e w' ⟨v',rfl,h1,h2,h3,h4⟩
 exact⟨v',rfl,h.seg h1 h2 h3 h4⟩
theorem numP_bad {cnt:Nat}(h:PMem w wr B0 s g bs pos v11 v12 out qs segs)(hr:numSeg bs pos cnt out=none)(hg:g<B0)(hb:B0<=s)(hx:AllLt 8 bs)(hl:bs.length<=100000)(hc:cnt<=100000)(ho:out.length<=1000000)(hp:pos<=8*bs.length) :
  Calls Tryz.prog 113 #[.pointer (some ⟨s,0,none⟩),v11,.int .i64 (cnt:Int)] wr fun e w'=>∃ v' x,e=.returned (.tuple #[v',.iface 208 x])/\Below B0 w w':=by
 refine (numWalk w wr B0 s g pos cnt bs v11 out h.src hg hb h.own h.bel h.sz hx hl hc ho hp).mono ?_
 rw [hr]
 rintro e w' ⟨v',x,rfl,h1⟩
 exact⟨v',x,rfl,h1⟩
theorem alP {cnt p:Nat}{ys zs:List Int}(fc:Bool)(h:PMem w wr B0 s g bs pos v11 v12 out qs segs)(hr:alSeg bs pos cnt out=some (ys,p))(hz:alOut fc out ys=zs)(hg:g<B0)(hb:B0<=s)(hx:AllLt 8 bs)(hl:bs.length<=100000)(hc:cnt<=100000)(ho:out.length<=1000000)(hp:pos<=8*bs.length) :
  Calls Tryz.prog 114 #[.pointer (some ⟨s,0,none⟩),v11,.int .i64 (cnt:Int),.bool fc] wr fun e w'=>∃ v',e=.returned (.tuple #[v',.nilIface])/\PMem w w' B0 s g bs p v' v12 zs qs segs:=by
 cases fc with
 | false=>
  refine (alWalk w wr B0 s g pos cnt bs v11 out h.src hg hb h.own h.bel h.sz hx hl hc ho hp).mono ?_
  rw [hr]
  rintro e w' ⟨v',rfl,h1,h2,h3,h4⟩
  have:zs=ys:=by rw [<- hz];rfl
  subst this
  exact⟨v',rfl,h.seg h1 h2 h3 h4⟩
 | true=>
  refine (alWalkG w wr B0 s g pos cnt bs v11 out h.src hg hb h.own h.bel h.sz hx hl hc ho hp).mono ?_
  rw [hr]
  rintro e w' ⟨v',rfl,h1,h2,h3,h4⟩
  have:zs=ys.take out.length++gs1 (ys.drop out.length):=by rw [<- hz,alSeg_pre bs _ _ _ _ _ hr];rfl
  subst this
  exact⟨v',rfl,h.seg h1 h2 h3 h4⟩
theorem alP_bad {cnt:Nat}(fc:Bool)(h:PMem w wr B0 s g bs pos v11 v12 out qs segs)(hr:alSeg bs pos cnt out=none)(hg:g<B0)(hb:B0<=s)(hx:AllLt 8 bs)(hl:bs.length<=100000)(hc:cnt<=100000)(ho:out.length<=1000000)(hp:pos<=8*bs.length) :
  Calls Tryz.prog 114 #[.pointer (some ⟨s,0,none⟩),v11,.int .i64 (cnt:Int),.bool fc] wr fun e w'=>∃ v' x,e=.returned (.tuple #[v',.iface 208 x])/\Below B0 w w':=by
 cases fc with
 | false=>
  refine (alWalk w wr B0 s g pos cnt bs v11 out h.src hg hb h.own h.bel h.sz hx hl hc ho hp).mono ?_
  rw [hr]
  rintro e w' ⟨v',x,rfl,h1⟩
  exact⟨v',x,rfl,h1⟩
 | true=>
  refine (alWalkG w wr B0 s g pos cnt bs v11 out h.src hg hb h.own h.bel h.sz hx hl hc ho hp).mono ?_
  rw [hr]
  rintro e w' ⟨v',x,rfl,h1⟩
  exact⟨v',x,rfl,h1⟩
theorem byteP {cnt:Nat}{hint:Value}(h:PMem w wr B0 s g bs pos v11 v12 out qs segs)(hg:g<B0)(hb:B0<=s)(hx:AllLt 8 bs)(hl:bs.length<=100000)(hc:cnt<=100000)(ho:out.length<=1000000)(hs:segs.length<=1000000)(hp:pos+8*cnt<=8*bs.length) :
  Calls Tryz.prog 115 #[.pointer (some ⟨s,0,none⟩),v11,.int .i64 (cnt:Int),.pointer none,v12,hint] wr fun e w'=>∃ v' vs' qs',e=.returned (.tuple #[v',vs',.nilIface])/\PMem w w' B0 s g bs (pos+8*cnt) v' vs' (out++byteSeg bs pos cnt) qs' (segs++[byteSeg bs pos cnt]):=by
 refine (byteWalk w wr B0 s g pos cnt bs v11 v12 hint out qs segs h.src hg hb h.own h.segs h.bel h.sz hx hl hc ho hs hp).mono ?_
 rintro e w' ⟨v',vs',qs',rfl,h1,h2,h3,h4,h5⟩
 exact⟨v',vs',qs',rfl,h1,h2,h3,h4,h5⟩
theorem byteP_bad {cnt:Nat}{hint:Value}(h:PMem w wr B0 s g bs pos v11 v12 out qs segs)(hl:bs.length<=100000)(hp:pos<=8*bs.length)(hp2:8*bs.length<pos+8*cnt)(hc:cnt<=100000) :
  Calls Tryz.prog 115 #[.pointer (some ⟨s,0,none⟩),v11,.int .i64 (cnt:Int),.pointer none,v12,hint] wr fun e w'=>∃ v' vs' x,e=.returned (.tuple #[v',vs',.iface 208 x])/\Below B0 w w':=by
 obtain⟨r,hr⟩:∃ r:Nat,8*bs.length-pos=r:=⟨_,rfl⟩
 have HL:=Aside0.mk (fun (W:World) (hW:PMem w W B0 s g bs pos v11 v12 out qs segs)=>leftP (r:=r) hW hp hl hr)
 have HM:=Aside0.mk h
 have hcr:r<8*cnt:=by omega
 have hdd:decide ((r:Int)<8*(cnt:Int))=true:=decide_eq_true (by omega)
 clear h hl hp hp2 hr
 go_enter Tryz.func115,Tryz.ntmps115
 go_wp2_with (first | (go_at_call 106;refine (HL.out _ HM.out).mono ?_;rintro e w' ⟨rfl,hM'⟩;have nM:=Aside0.mk hM';clear HM hM';have HM:=nM;clear nM) | (go_at_call 89;refine (newFmt _ _).mono ?_;rintro e w' ⟨⟨y0,rfl⟩,hb'⟩;have nB:=Aside0.mk ((HM.out.bel.alloc HM.out.sz _).trans (hb'.mono (by simp;exact Nat.le_succ_of_le HM.out.sz)));clear HM hb'))
 go_ret3
 exact⟨_,_,_,rfl,nB.out⟩
theorem modeL (W:World)(x:Int)(h:x=0\/x=1\/x=2\/x=3\/x=4\/x=5):Calls Tryz.prog 108 #[.int .i64 x] W fun e w'=>e=.returned (.tuple #[.int .i64 x,.nilIface])/\W=w':=by
 obtain⟨n,rfl⟩:∃ n:Nat,x=(n:Int):=⟨x.toNat,by omega⟩
 refine (modeFor W n (by omega)).mono ?_
 rintro e w' ⟨rfl,rfl⟩
 exact⟨rfl,rfl⟩
def cellNat (w:World)(a:Addr):Nat:=match w.cell? a with
 | some (.int _ n)=>n.toNat
 | _=>0
def srcPos (w:World)(s:Nat):Nat:=8*cellNat w ⟨s,1,none⟩+cellNat w ⟨s,2,none⟩
theorem srcPos_at {w:World}{s g pos:Nat}{bs:List Nat}(h:SrcAt w s g bs pos):srcPos w s=pos:=by
 have c1:w.cell? ⟨s,1,none⟩=some (.int .i64 ((pos/8:Nat):Int)):=h.1.cell 1
 have c2:w.cell? ⟨s,2,none⟩=some (.int .i64 ((pos%8:Nat):Int)):=h.1.cell 2
 unfold srcPos cellNat
 rw [c1,c2]
 simp only [Int.toNat_natCast]
 omega
end
theorem cell_up {w wx:World}{a:Addr}{v:Value}(hb:Below w.heap.size w wx)(h:w.cell? a=some v):wx.cell? a=some v:=(hb.cell (World.block_lt_of_cell? _ _ h)).trans h
theorem info98s:(Tryz.prog.info? 98).map (fun i=>(i.zero,i.size,i.bytes))=some (some (.agg #[.int .i64 0,.slice none 0 0]),2,32):=by kernel_rfl
theorem tseg_made {w:World}{base base' n c:Nat}{A:Option Addr}{ys:List Int}(md:Int)(ho:w.ownsRow base 5 1 (.slice A n c) n (nums .u8 ys))(hn:ys.length=n)(hb:base'<=base) :
  F.k98.M w base' (fun k=>(Value.slice A n c).ownBlock=some k) ⟨md,ys⟩ [.int .i64 md,.slice A n c]:=by
 subst hn
 exact F.k98_mkM w base' _ ⟨md,ys⟩ (Kd.R_lower (Kd.R_of_own ho (fun k hk=>hk)) hb)
def isAsc (x:Int):Bool:=decide (32<=x/\x<=126)
def ascS (l:List F.S98):Bool:=l.all fun s=>s.f1.all isAsc
end Go.Proofs.YtgccjgpdjkhpdaaGreat.B
