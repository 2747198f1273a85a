import Derived.Test.YtgccjgpdjkhpdaaGreatVQ14
import Derived.Test.YtgccjgpdjkhpdaaGreatVQ23
/-! Own texts of this claim, part 24. -/
namespace Go.Proofs.YtgccjgpdjkhpdaaGreat.B
open Go.RowKit Go.Proofs.YtgccjgpdjkhpdaaGreatW.PrintWords Go.Proofs.YtgccjgpdjkhpdaaGreatW.PrintLast Go.Proofs.YtgccjgpdjkhpdaaGreatW.PrintMore
set_option linter.unusedVariables false
set_option linter.unusedSimpArgs false
theorem strip_alllt {m:Nat}{xs:List Nat}(h:AllLt m xs):AllLt m (strip xs):=by
 unfold strip
 cases hd:xs.dropWhile (·==0) with
 | nil=>intro x hx;rw [List.mem_singleton.1 hx];exact Nat.two_pow_pos m
 | cons y ys=>
  intro x hx
  have:x∈xs.dropWhile (·==0):=by rw [hd];exact hx
  exact h x ((List.dropWhile_suffix _).subset this)
theorem pev_strip (m p r:Nat)(xs:List Nat):pev m p r (strip xs)=pev m p r xs:=by
 have key:∀ xs:List Nat,pev m p r (match xs.dropWhile (·==0) with | []=>[0] | y :: ys=>y :: ys)=pev m p r xs:=by
  intro xs
  induction xs with
  | nil=>show gm m p 0 r ^^^ 0=0;rw [gm_zero_left];rfl
  | cons x xs ih=>
   by_cases hx:x=0
   ·subst hx
    rw [List.dropWhile_cons,if_pos (show (0==0)=true from rfl),ih]
    show _=pevF m p r (gm m p 0 r ^^^ 0) xs
    rw [gm_zero_left]
    rfl
   ·rw [List.dropWhile_cons,if_neg (by simpa using hx)]
 exact key xs
theorem strip_len (xs:List Nat)(h:xs≠[]):(strip xs).length<=xs.length:=by
 have hpos:0<xs.length:=by cases xs with | nil=>exact absurd rfl h | cons _ _=>simp
 unfold strip
 cases hd:xs.dropWhile (·==0) with
 | nil=>exact hpos
 | cons y ys=>
  have:=(List.dropWhile_suffix (l:=xs) (·==0)).length_le
  rw [hd] at this
  exact this
theorem replicate_set (n i:Nat):(List.replicate n 0).set i 0=List.replicate n 0:=by
 apply List.ext_getElem
 ·simp
 ·intro j h1 h2
  rw [List.getElem_set]
  split<;>simp
set_option maxHeartbeats 1000000 in
set_option maxRecDepth 8000 in
theorem rsClean (w:World)(rs gf m p b g T:Nat)(xs:List Nat)(F:Fld m p)(hP:Prim m p)(hm:m<=12)(hR:Blk w rs 196 #[.pointer (some ⟨gf,0,none⟩)])(hG:GFAt w gf m p b)(hX:IBlk w g xs)(hx:AllLt m xs)(h0:xs≠[])(hl:xs.length<=100000)
  (hT:T+b<=2 ^ m) (hs:∀ i,i<T->pev m p (gx m p (i+b)) xs=0) :
  Calls Tryz.prog 172 #[.pointer (some ⟨rs,0,none⟩),.slice (some ⟨g,0,none⟩) xs.length xs.length,.int .i64 (T:Int)] w fun e w'=>e=.returned .nilIface/\Below w.heap.size w w':=by
 have hN4:2 ^ m<=4096:=Nat.le_trans (Nat.pow_le_pow_right (by omega) hm) (by decide)
 have HF:=Aside0.mk F
 have HP:=Aside0.mk hP
 have HR:=Aside0.mk hR
 have HG:=Aside0.mk hG
 have HX:=Aside0.mk hx
 have HS:=Aside0.mk hs
 have HT:=Aside0.mk hT
 have hlen:=strip_len xs h0
 have HL:=Aside0.mk (Nat.le_trans hlen hl)
 have kp:=newPoly w gf g 0 xs.length xs (IRow.whole hX) (Nat.le_refl _) h0 hl
 have c0:w.cell? ⟨rs,0,none⟩=some (.pointer (some ⟨gf,0,none⟩)):=hR.cell 0
 obtain⟨n,hn⟩:∃ n,xs.length=n:=⟨_,rfl⟩
 rw [hn] at kp ⊢
 have hT4:T<=4096:=by omega
 have hb4:b<=4096:=by omega
 clear F hP hR hG hX hx h0 hl hs hT hlen hn hN4
 have mk:=make_int T (by omega)
 go_enter Tryz.func172,Tryz.ntmps172
 go_wp2_with (go_at_call 146;refine kp.mono ?_;rintro e w1 ⟨q,rfl,hq,hPA,hb1⟩)
 clear kp mk
 have HPA:=Aside0.mk hPA
 have HB1:=Aside0.mk hb1
 clear hPA hb1 c0
 obtain⟨gs,hgs⟩:∃ gs,gs=w1.heap.size:=⟨_,rfl⟩
 rw [<- hgs]
 obtain⟨w2,hw2⟩:∃ w2,w2=w1.alloc (.cells (nums .i64 (ints (List.replicate T 0))).toArray 3):=⟨_,rfl⟩
 rw [<- hw2]
 have HZ:=Aside0.mk (show IBlk w2 gs (List.replicate T 0) by rw [hw2,hgs];exact Blk.new _ _ _)
 have HB2:=Aside0.mk (show Below w1.heap.size w1 w2 by rw [hw2];exact below_alloc (Below.refl _ _) _)
 have HGS:=Aside0.mk hgs
 clear hw2 hgs
 go_loopw [10,11] (fun vb vi wr=>∃ i:Nat,vi=.int .i64 (i:Int)/\vb=.bool true/\i<=T/\Aside0 (Below w1.heap.size w1 wr)/\Aside0 (IBlk wr gs (List.replicate T 0))) (fun _ vi _=>(T-intOf vi).toNat)
 case atStart=>exact⟨0,rfl,rfl,by omega,HB2,HZ⟩
 case round=>
  clear HB2 HZ
  obtain⟨i,rfl,rfl,hi,HB,HZ⟩:=hrel
  by_cases hiT:i<T
  ·have hR1:=(HR.out.below HB1.out HR.out.lt).below HB.out (HR.out.below HB1.out HR.out.lt).lt
   have d0:wr.cell? ⟨rs,0,none⟩=some (.pointer (some ⟨gf,0,none⟩)):=hR1.cell 0
   have HG2:=Aside0.mk ((HG.out.below HB1.out (Nat.le_refl _)).below HB.out (Nat.le_refl _))
   have HP2:=Aside0.mk (HPA.out.below HB.out (Nat.le_refl _))
   have hib:i+b<2 ^ m:=by have:=HT.out;omega
   have k1:=fun k=>gfBase (wr.drewN k) gf m p b (HG2.out.drawn k)
   have k2:=fun k=>gfExp (wr.drewN k) gf m p b (i+b) (HG2.out.drawn k) hib
   rw [show ((i+b:Nat):Int)=(i:Int)+(b:Int) by omega] at k2
   have k3:=fun k=>polyEval (wr.drewN k) q gf m p b (gx m p (i+b)) (strip xs) HF.out HP.out hm (HG2.out.drawn k) (HP2.out.drawn k) (strip_alllt HX.out) (gx_lt HF.out _) HL.out
   rw [pev_strip,HS.out i hiT] at k3
   obtain⟨a,ha⟩:∃ a,gx m p (i+b)=a:=⟨_,rfl⟩
   rw [ha] at k2 k3
   have z1:wr.cell? ⟨gs,T-1-i,none⟩=some (.int .i64 0):=by
    have:=HZ.out.cell (T-1-i) (by rw [List.length_replicate];omega)
    rw [this]
    simp only [List.getD,List.getElem?_replicate]
    split<;>rfl
   have z2:wr.frozen? ⟨gs,T-1-i,none⟩=false:=Blk.frozen HZ.out _
   obtain⟨j,hj⟩:∃ j,T-1-i=j:=⟨_,rfl⟩
   rw [hj] at z1 z2
   have hji:(T:Int)-1-(i:Int)=(j:Int):=by omega
   have hjT:j<T:=by omega
   have hgsz:w1.heap.size<=gs:=by rw [HGS.out];exact Nat.le_refl _
   have HGZ:=Aside0.mk hgsz
   have HZ2:=Aside0.mk (fun k=>show IBlk ((wr.drewN k).setCell ⟨gs,j,none⟩ (.int .i64 0)) gs (List.replicate T 0) by
    have:=(show IBlk (wr.drewN k) gs (List.replicate T 0) from Blk.below HZ.out (pw_below_drewN (Below.refl wr.heap.size wr) k) (Blk.lt HZ.out)).set j 0
    rw [replicate_set] at this
    exact this)
   have HBZ:=Aside0.mk (fun k=>(show Below w1.heap.size w1 ((wr.drewN k).setCell ⟨gs,j,none⟩ (.int .i64 0)) from Below.setc (pw_below_drewN HB.out k) HGZ.out _))
   clear hR1 hib ha hj hgsz
   go_wp2
   go_quiet (first
    | (go_at_call 177;exact Calls.quiet_of_same (k1 _))
    | (go_at_call 176;exact Calls.quiet_of_same (k2 _))
    | (go_at_call 175;exact Calls.quiet_of (k3 _)))
   clear k1 k2 k3
   go_wp2
   go_roundw
   case rel=>exact⟨i+1,by go_num,rfl,by omega,⟨HBZ.out _⟩,⟨HZ2.out _⟩⟩
   case measure=>simp [intOf];omega
  ·have:T=i:=by omega
   subst this
   go_wp2
   go_ret
   exact⟨rfl,below_then HB1.out HB1.out.size HB.out⟩
theorem u8_and255 (x:Nat)(h:x<256):Go.bits .and .u8 (x:Int) 255=(x:Int):=by
 have:=(bits_nat .u8 8 (by decide) (fun n h0 h1=>by rw [IntKind.wrap_u8];omega) x 255 h (by decide)).1
 rw [show (255:Int)=((255:Nat):Int) from rfl,this,show x &&& 255=x%256 from Nat.and_two_pow_sub_one_eq_mod (n:=8) x,Nat.mod_eq_of_lt h]
def copyTo (ws:List Nat)(i:Nat):List Nat:=ws.take i++List.replicate (ws.length-i) 0
theorem copyTo_len (ws:List Nat)(i:Nat)(h:i<=ws.length):(copyTo ws i).length=ws.length:=by unfold copyTo;simp;omega
theorem copyTo_all (ws:List Nat):copyTo ws ws.length=ws:=by unfold copyTo;simp
theorem copyTo_set (ws:List Nat)(i:Nat)(h:i<ws.length):(copyTo ws i).set i (ws.getD i 0)=copyTo ws (i+1):=by
 unfold copyTo
 have hl:(ws.take i).length=i:=by simp;omega
 rw [List.set_append_right _ _ (by omega),hl,Nat.sub_self,show ws.length-i=(ws.length-(i+1))+1 by omega,List.replicate_succ,List.set_cons_zero,take_snoc ws i h,List.append_assoc]
 rfl
theorem set_self (ws:List Nat)(i:Nat)(h:i<ws.length):ws.set i (ws.getD i 0)=ws:=by
 apply List.ext_getElem
 ·simp
 ·intro j h1 h2
  rw [List.getElem_set]
  split
  ·rename_i e
   subst e
   simp [List.getD,List.getElem?_eq_getElem h]
  ·rfl
set_option maxHeartbeats 1000000 in
theorem corrClean (w:World)(d rs gf g n dn:Nat)(ws:List Nat)(hD:DecAt w d rs gf)(hU:UBlk w g ws)(hw:AllLt 8 ws)(hn:ws.length=n)(hn1:1<=n)(hn2:n<=1000)(hd:dn<=n)(he:n-dn<=250)(hs:∀ i,i<n-dn->pev 8 285 (gx 8 285 i) ws=0) :
  Calls Tryz.prog 165 #[.pointer (some ⟨d,0,none⟩),.slice (some ⟨g,0,none⟩) n n,.int .i64 (dn:Int)] w fun e w'=>e=.returned .nilIface/\Below w.heap.size w w':=by
 obtain⟨hD1,hD2,hD3⟩:=hD
 have c0:w.cell? ⟨d,0,none⟩=some (.pointer (some ⟨rs,0,none⟩)):=hD1.cell 0
 have HD1:=Aside0.mk hD1
 have HD2:=Aside0.mk hD2
 have HD3:=Aside0.mk hD3
 have HU:=Aside0.mk hU
 have HW:=Aside0.mk hw
 have HN:=Aside0.mk hn
 have HS:=Aside0.mk hs
 have mk:=make_int n (by omega)
 clear hD1 hD2 hD3 hU hw hn hs
 go_enter Tryz.func165,Tryz.ntmps165
 go_wp2
 clear mk c0
 obtain⟨gi,hgi⟩:∃ gi,gi=w.heap.size:=⟨_,rfl⟩
 rw [<- hgi]
 obtain⟨w1,hw1⟩:∃ w1,w1=w.alloc (.cells (nums .i64 (ints (List.replicate n 0))).toArray 3):=⟨_,rfl⟩
 rw [<- hw1]
 have HZ:=Aside0.mk (show IBlk w1 gi (copyTo ws 0) by unfold copyTo;rw [hw1,hgi,HN.out];exact Blk.new _ _ _)
 have HB1:=Aside0.mk (show Below w.heap.size w w1 by rw [hw1];exact below_alloc (Below.refl _ _) _)
 have HGI:=Aside0.mk hgi
 clear hw1 hgi
 go_loopw [9] (fun vi wr=>∃ i:Nat,vi=.int .i64 (i:Int)/\i<=n/\Aside0 (Below w.heap.size w wr)/\Aside0 (IBlk wr gi (copyTo ws i))) (fun vi _=>(n-intOf vi).toNat)
 case atStart=>exact⟨0,rfl,by omega,HB1,HZ⟩
 case round=>
  clear HB1 HZ
  obtain⟨i,rfl,hi,HB,HZ⟩:=hrel
  by_cases hin:i<n
  ·obtain⟨x,hx⟩:∃ x,ws.getD i 0=x:=⟨_,rfl⟩
   have hx8:x<256:=by rw [<- hx];exact getD_lt HW.out i
   have r0:wr.cell? ⟨g,i,none⟩=some (.int .u8 (x:Int)):=by
    have:=UBlk.cell (Blk.below HU.out HB.out (Blk.lt HU.out)) i (by rw [HN.out];exact hin)
    rw [hx] at this
    exact this
   obtain⟨old,hold⟩:∃ old,(copyTo ws i).getD i 0=old:=⟨_,rfl⟩
   have r1:wr.cell? ⟨gi,i,none⟩=some (.int .i64 (old:Int)):=by
    have:=HZ.out.cell i (by rw [copyTo_len ws i (by rw [HN.out];exact hi),HN.out];exact hin)
    rw [hold] at this
    exact this
   have r2:wr.frozen? ⟨gi,i,none⟩=false:=Blk.frozen HZ.out _
   have ra:=u8_and255 x hx8
   have HZ2:=Aside0.mk (show IBlk (wr.setCell ⟨gi,i,none⟩ (.int .i64 (x:Int))) gi (copyTo ws (i+1)) by
    have:=HZ.out.set i x
    rw [<- hx,copyTo_set ws i (by rw [HN.out];exact hin),hx] at this
    exact this)
   have HB2:=Aside0.mk (show Below w.heap.size w (wr.setCell ⟨gi,i,none⟩ (.int .i64 (x:Int))) from Below.setc HB.out (by rw [HGI.out];exact Nat.le_refl _) _)
   clear hx hold
   go_wp2
   go_roundw
   case rel=>exact⟨i+1,by go_num,by omega,HB2,HZ2⟩
   case measure=>simp [intOf];omega
  ·have:n=i:=by omega
   subst this
   have hZ:=HZ.out
   rw [<- HN.out,copyTo_all] at hZ
   have HZ2:=Aside0.mk hZ
   have c0:wr.cell? ⟨d,0,none⟩=some (.pointer (some ⟨rs,0,none⟩)):=(HD1.out.below HB.out HD1.out.lt).cell 0
   have kr:=rsClean wr rs gf 8 285 0 gi (n-dn) ws fQR pQR (by decide) (HD2.out.below HB.out HD2.out.lt) (HD3.out.below HB.out (Nat.le_refl _)) hZ HW.out (by intro h;have:=HN.out;rw [h] at this;simp at this;omega) (by rw [HN.out];omega) (by have:(2:Nat) ^ 8=256:=rfl;omega) (fun i hi=>HS.out i hi)
   rw [HN.out,show ((n-dn:Nat):Int)=(n:Int)-(dn:Int) by omega] at kr
   clear hZ
   go_wp2_with (go_at_call 172;refine kr.mono ?_;rintro e w2 ⟨rfl,hb2⟩)
   clear kr c0
   have HB3:=Aside0.mk (below_then HB.out HB.out.size hb2)
   have HZ3:=Aside0.mk (show IBlk w2 gi ws from Blk.below HZ2.out hb2 (Blk.lt HZ2.out))
   have HU3:=Aside0.mk (show UBlk w2 g ws from Blk.below (Blk.below HU.out HB.out (Blk.lt HU.out)) hb2 (Blk.lt (Blk.below HU.out HB.out (Blk.lt HU.out))))
   clear hb2 HZ HZ2
   go_loopw [11] (fun vi wr=>∃ i:Nat,vi=.int .i64 (i:Int)/\i<=dn/\Aside0 (UBlk wr g ws)/\Aside0 (Turn w2 wr g)) (fun vi _=>(dn-intOf vi).toNat)
   case atStart=>exact⟨0,rfl,by omega,HU3,⟨Turn.refl _ _⟩⟩
   case round=>
    obtain⟨i,rfl,hi,HU4,HT⟩:=hrel
    by_cases hid:i<dn
    ·obtain⟨x,hx⟩:∃ x,ws.getD i 0=x:=⟨_,rfl⟩
     have hx8:x<256:=by rw [<- hx];exact getD_lt HW.out i
     have hgne:gi≠g:=blk_ne HZ3.out HU3.out (by decide)
     have r0:wr.cell? ⟨gi,i,none⟩=some (.int .i64 (x:Int)):=by
      have:=IBlk.cell (HT.out.blk HZ3.out hgne) i (by rw [HN.out];omega)
      rw [hx] at this
      exact this
     have r1:wr.cell? ⟨g,i,none⟩=some (.int .u8 (x:Int)):=by
      have:=UBlk.cell HU4.out i (by rw [HN.out];omega)
      rw [hx] at this
      exact this
     have r2:wr.frozen? ⟨g,i,none⟩=false:=Blk.frozen HU4.out _
     have HU5:=Aside0.mk (show UBlk (wr.setCell ⟨g,i,none⟩ (.int .u8 (x:Int))) g ws by
      have:=HU4.out.set i x
      rw [<- hx,set_self ws i (by rw [HN.out];omega),hx] at this
      exact this)
     have HT5:=Aside0.mk (HT.out.trans (Turn.set wr g i (.int .u8 (x:Int))))
     clear hx hgne
     go_wp2
     go_roundw
     case rel=>exact⟨i+1,by go_num,by omega,HU5,HT5⟩
     case measure=>simp [intOf];omega
    ·have:dn=i:=by omega
     subst this
     go_wp2
     go_ret
     refine⟨rfl,HT.out.os.trans HB3.out.os,HT.out.tape.trans HB3.out.tape,HT.out.output.trans HB3.out.output,by rw [HT.out.size];exact HB3.out.size,fun k hk=>?_⟩
     by_cases hkg:k=g
     ·subst hkg
      exact (show _=_ from HU4.out).trans (show _=_ from HU.out).symm
     ·exact (HT.out.block k hkg).trans (HB3.out.block k hk)
def capAt (w:World)(g:Nat):Nat:=match w.heap[g]? with
 | some (.cells cs _ _)=>cs.size
 | _=>0
theorem capAt_eq {w w':World}{g:Nat}(h:w'.heap[g]? = w.heap[g]?):capAt w' g=capAt w g:=by unfold capAt;rw [h]
theorem capAt_blk {w:World}{g:Nat}{t:TypeId}{cs:Array Value}(h:Blk w g t cs):capAt w g=cs.size:=by
 unfold capAt
 rw [show w.heap[g]? = some (.cells cs t (0,0)) from h]
structure RBlk (w:World)(g:Nat)(xs:List Nat):Prop where
 blk:∃ cs,Blk w g 5 cs
 cell:∀ i,i<xs.length->w.cell? ⟨g,i,none⟩=some (.int .u8 ((xs.getD i 0:Nat):Int))
theorem UBlk.r {w:World}{g:Nat}{xs:List Nat}(h:UBlk w g xs):RBlk w g xs:=⟨⟨_,h⟩,fun i hi=>h.cell i hi⟩
theorem UBlk.cap {w:World}{g:Nat}{xs:List Nat}(h:UBlk w g xs):capAt w g=xs.length:=by rw [capAt_blk h];simp [nums,ints]
theorem RBlk.move {w w':World}{g:Nat}{xs:List Nat}(h:RBlk w g xs)(hb:w'.heap[g]? = w.heap[g]?):RBlk w' g xs:=by
 obtain⟨⟨cs,h1⟩,h2⟩:=h
 refine⟨⟨cs,hb.trans h1⟩,fun i hi=>?_⟩
 rw [<- h2 i hi]
 unfold World.cell?
 rw [hb]
theorem RBlk.lt {w:World}{g:Nat}{xs:List Nat}(h:RBlk w g xs):g<w.heap.size:=by obtain⟨⟨cs,h1⟩,_⟩:=h;exact h1.lt
theorem RBlk.below {w w':World}{g B:Nat}{xs:List Nat}(h:RBlk w g xs)(hb:Below B w w')(hg:g<B):RBlk w' g xs:=h.move (hb.block g hg)
theorem RBlk.turn {w w':World}{g s:Nat}{xs:List Nat}(h:RBlk w g xs)(ht:Turn w w' s)(hne:g≠s):RBlk w' g xs:=h.move (ht.block g hne)
theorem RBlk.reads {w:World}{g:Nat}{xs:List Nat}(h:RBlk w g xs)(hl:xs.length<=1000000):ReadsInt w .u8 (some ⟨g,0,none⟩) xs.length (ints xs):=by
 refine⟨ints_len _,by omega,fun _=>⟨_,rfl,fun j hj=>?_⟩⟩
 have ha:(⟨g,0,none⟩:Addr).add j=⟨g,j,none⟩:=by unfold Addr.add;split<;>simp_all
 rw [ha,h.cell j hj]
 simp [ints,List.getD_eq_getElem?_getD,List.getElem?_map,List.getElem?_eq_getElem hj]
theorem capAt_turn {w w':World}{g s:Nat}(ht:Turn w w' s)(hne:g≠s):capAt w' g=capAt w g:=capAt_eq (ht.block g hne)
def SrcAt (w:World)(s g:Nat)(xs:List Nat)(pos:Nat):Prop:=Blk w s 226 #[.slice (some ⟨g,0,none⟩) xs.length (capAt w g),.int .i64 ((pos/8:Nat):Int),.int .i64 ((pos%8:Nat):Int)]/\RBlk w g xs
theorem SrcAt.move {w w':World}{s g:Nat}{xs:List Nat}{pos:Nat}(h:SrcAt w s g xs pos)(hs:w'.heap[s]? = w.heap[s]?)(hg:w'.heap[g]? = w.heap[g]?):SrcAt w' s g xs pos:=⟨by rw [capAt_eq hg];exact Eq.trans hs h.1,h.2.move hg⟩
theorem newSrc (w:World)(g:Nat)(n c:Nat):Calls Tryz.prog 105 #[.slice (some ⟨g,0,none⟩) n c] w fun e w'=>e=.returned (.pointer (some ⟨w.heap.size,0,none⟩))/\w'=w.alloc (.cells #[.slice (some ⟨g,0,none⟩) n c,.int .i64 0,.int .i64 0] 226):=by
 go_enter Tryz.func105,Tryz.ntmps105
 go_wp2
 go_ret
 exact⟨rfl,rfl⟩
theorem srcLeft (w:World)(s g pos:Nat)(xs:List Nat)(h:SrcAt w s g xs pos)(hp:pos<=8*xs.length)(hl:xs.length<=100000) :
  Calls Tryz.prog 106 #[.pointer (some ⟨s,0,none⟩)] w fun e w'=>e=.returned (.int .i64 ((8*xs.length-pos:Nat):Int))/\Drawn w w':=by
 obtain⟨h1,h2⟩:=h
 obtain⟨n,hn⟩:∃ n,xs.length=n:=⟨_,rfl⟩
 obtain⟨o,ho⟩:∃ o,pos%8=o:=⟨_,rfl⟩
 obtain⟨q,hq⟩:∃ q,pos/8=q:=⟨_,rfl⟩
 obtain⟨c,hcap⟩:∃ c,capAt w g=c:=⟨_,rfl⟩
 rw [hn,ho,hq,hcap] at h1
 have c0:w.cell? ⟨s,0,none⟩=some (.slice (some ⟨g,0,none⟩) n c):=h1.cell 0
 have c1:w.cell? ⟨s,1,none⟩=some (.int .i64 (q:Int)):=h1.cell 1
 have c2:w.cell? ⟨s,2,none⟩=some (.int .i64 (o:Int)):=h1.cell 2
 have hqn:q<=n:=by omega
 have e:8*((n:Int)-(q:Int))-(o:Int)=((8*xs.length-pos:Nat):Int):=by omega
 have hl2:n<=100000:=by omega
 have ho8:o<=7:=by omega
 obtain⟨r,hr⟩:∃ r:Nat,8*xs.length-pos=r:=⟨_,rfl⟩
 rw [hr] at e ⊢
 clear h1 h2 hn ho hq hr hp hl hcap
 go_enter Tryz.func106,Tryz.ntmps106
 go_wp2
 go_quiet (fail)
 go_wp2
 go_ret
 exact⟨by first | rfl | (rw [<- e];rfl),_,rfl⟩
theorem mask_look:∀ x:Fin 256,∀ b:Fin 8,∀ t:Fin 9,1<=t.val->t.val+b.val<=8->(x.val &&& (255/2 ^ (8-t.val)*2 ^ b.val%256))/2 ^ b.val=x.val/2 ^ b.val%2 ^ t.val:=by decide +kernel
theorem mask_at (x b t:Nat)(hx:x<256)(ht:1<=t)(h:t+b<=8):(x &&& (255/2 ^ (8-t)*2 ^ b%256))/2 ^ b=x/2 ^ b%2 ^ t:=mask_look ⟨x,hx⟩ ⟨b,by omega⟩ ⟨t,by omega⟩ ht h
theorem u8_and_nat (a b:Nat)(ha:a<256)(hb:b<256):Go.bits .and .u8 (a:Int) (b:Int)=((a &&& b:Nat):Int) :=
 (bits_nat .u8 8 (by decide) (fun n h0 h1=>by rw [IntKind.wrap_u8];omega) a b ha hb).1
theorem Turn.drawn {w w':World}{s:Nat}(h:Turn w w' s)(n:Nat):Turn w (w'.drewN n) s:=⟨h.os,h.tape,h.output,h.size,h.block⟩
theorem Blk.drawn {w:World}{g:Nat}{t:TypeId}{cs:Array Value}(h:Blk w g t cs)(n:Nat):Blk (w.drewN n) g t cs:=h.below (pw_below_drewN (Below.refl w.heap.size w) n) h.lt
theorem srcBlk_ne {w:World}{s g:Nat}{xs:List Nat}{cs:Array Value}(h:Blk w s 226 cs)(hU:RBlk w g xs):g≠s:=by obtain⟨cs,hc⟩:=hU.blk;exact blk_ne hc h (by decide)
theorem srcSet2 {w:World}{s:Nat}{v a b:Value}(h:Blk w s 226 #[v,a,b])(u:Value):Blk (w.setCell ⟨s,2,none⟩ u) s 226 #[v,a,u]:=blk_set h 2 u
theorem srcSet1 {w:World}{s:Nat}{v a b:Value}(h:Blk w s 226 #[v,a,b])(u:Value):Blk (w.setCell ⟨s,1,none⟩ u) s 226 #[v,u,b]:=blk_set h 1 u
set_option maxHeartbeats 1000000 in
set_option maxRecDepth 8000 in
theorem readBits (w:World)(s g pos k:Nat)(xs:List Nat)(h:SrcAt w s g xs pos)(hp:pos+k<=8*xs.length)(hl:xs.length<=100000)(hk:1<=k)(hk2:k<=32)(hx:AllLt 8 xs) :
  Calls Tryz.prog 107 #[.pointer (some ⟨s,0,none⟩),.int .i64 (k:Int)] w fun e w'=>e=.returned (.tuple #[.int .i64 (rdBits xs pos k:Int),.nilIface])/\SrcAt w' s g xs (pos+k)/\Turn w w' s:=by
 have kl:=srcLeft w s g pos xs h (by omega) hl
 obtain⟨h1,h2⟩:=h
 obtain⟨n,hn⟩:∃ n,xs.length=n:=⟨_,rfl⟩
 obtain⟨o,ho⟩:∃ o,pos%8=o:=⟨_,rfl⟩
 obtain⟨q,hq⟩:∃ q,pos/8=q:=⟨_,rfl⟩
 obtain⟨c,hcap⟩:∃ c,capAt w g=c:=⟨_,rfl⟩
 rw [hn,ho,hq,hcap] at h1
 obtain⟨r,hr⟩:∃ r:Nat,8*xs.length-pos=r:=⟨_,rfl⟩
 rw [hr] at kl
 have hkr:k<=r:=by omega
 have c0:w.cell? ⟨s,0,none⟩=some (.slice (some ⟨g,0,none⟩) n c):=h1.cell 0
 have c1:w.cell? ⟨s,1,none⟩=some (.int .i64 (q:Int)):=h1.cell 1
 have c2:w.cell? ⟨s,2,none⟩=some (.int .i64 (o:Int)):=h1.cell 2
 have f1:w.frozen? ⟨s,1,none⟩=false:=h1.frozen 1
 have f2:w.frozen? ⟨s,2,none⟩=false:=h1.frozen 2
 have hl2:n<=100000:=by omega
 have ho8:o<=7:=by omega
 have HX:=Aside0.mk hx
 have HS:=Aside0.mk h1
 have HU:=Aside0.mk h2
 have hpos:pos=8*q+o:=by omega
 have HPOS:=Aside0.mk hpos
 have HN:=Aside0.mk hn
 have HCAP:=Aside0.mk hcap
 have hpk:8*q+o+k<=8*n:=by omega
 clear h1 h2 hn ho hq hr hp hl hx hpos hcap
 go_enter Tryz.func107,Tryz.ntmps107
 by_cases ho0:o=0
 ·subst ho0
  go_wp2_with (go_at_call 106;refine kl.mono ?_;rintro e w' ⟨rfl,m1,rfl⟩)
  clear c0 c1 c2 f1 f2 kl
  have HSa:=Aside0.mk (show Blk (w.drewN m1) s 226 #[.slice (some ⟨g,0,none⟩) n c,.int .i64 (q:Int),.int .i64 0] from HS.out.drawn m1)
  have HTa:=Aside0.mk (show Turn w (w.drewN m1) s from (Turn.refl w s).drawn m1)
  have HTV:=Aside0.mk (show 0=rdBits xs pos 0 by rw [rdBits_zero])
  have HPA:=Aside0.mk (show 8*q+0+0=8*q by omega)
  obtain⟨wa,hwa⟩:∃ wa,wa=w.drewN m1:=⟨_,rfl⟩
  rw [<- hwa] at HSa HTa ⊢
  clear hwa
  go_loopw [1,6] (fun vk vr wr=>∃ j qj a R:Nat,vk=.int .i64 (j:Int)/\vr=.int .i64 (R:Int)/\j<=k/\a+j=k/\Aside0 (8*q+0+a=8*qj)/\Aside0 (R=rdBits xs pos a)/\Aside0 (Blk wr s 226 #[.slice (some ⟨g,0,none⟩) n c,.int .i64 (qj:Int),.int .i64 0])/\Aside0 (Turn w wr s)) (fun vk _ _=>(intOf vk).toNat)
  case atStart=>exact⟨k,q,0,0,rfl,rfl,Nat.le_refl _,by omega,HPA,HTV,HSa,HTa⟩
  case round=>
   clear HSa HTa
   obtain⟨j,qj,a,R,rfl,rfl,hj,haj,HPJ,HRV,HSJ,HTJ⟩:=hrel
   have e0:wr.cell? ⟨s,0,none⟩=some (.slice (some ⟨g,0,none⟩) n c):=HSJ.out.cell 0
   have e1:wr.cell? ⟨s,1,none⟩=some (.int .i64 (qj:Int)):=HSJ.out.cell 1
   have e2:wr.cell? ⟨s,2,none⟩=some (.int .i64 0):=HSJ.out.cell 2
   have g1:wr.frozen? ⟨s,1,none⟩=false:=HSJ.out.frozen 1
   have g2:wr.frozen? ⟨s,2,none⟩=false:=HSJ.out.frozen 2
   have hqj:1<=j->qj<n:=by intro h;have:=HPJ.out;omega
   obtain⟨x,hx⟩:∃ x,xs.getD qj 0=x:=⟨_,rfl⟩
   have hx8:x<256:=by rw [<- hx];exact getD_lt HX.out qj
   have dx:1<=j->wr.cell? ⟨g,qj,none⟩=some (.int .u8 (x:Int)):=by
    intro h
    have:=(HU.out.turn HTJ.out (srcBlk_ne HS.out HU.out)).cell qj (by rw [HN.out];exact hqj h)
    rw [hx] at this
    exact this
   have hR32:R<2 ^ a:=by rw [HRV.out];exact rdBits_lt _ _ _
   have HXQ:=Aside0.mk hx
   clear hx
   by_cases hj8:8<=j
   ·have dx:=dx (by omega)
    have hqn:=hqj (by omega)
    have hR24:R<16777216:=Nat.lt_of_lt_of_le hR32 (Nat.le_trans (Nat.pow_le_pow_right (by decide) (show a<=24 by omega)) (by decide))
    have ra:=u8_and255 x hx8
    obtain⟨R2,hR2⟩:∃ R2,R*256+x=R2:=⟨_,rfl⟩
    have hor:Go.bits .or .i64 ((R:Int)*256) (x:Int)=(R2:Int):=by
     have h1:=i64_or_nat (R*256) x (by omega) (by omega)
     have h2:=Nat.two_pow_add_eq_or_of_lt (i:=8) (b:=x) hx8 R
     rw [show ((R*256:Nat):Int)=(R:Int)*256 by omega] at h1
     rw [h1,show R*256=2 ^ 8*R by omega,<- h2,<- hR2]
     congr 1
     omega
    have HRN:=Aside0.mk (show R2=rdBits xs pos (a+8) by
     rw [rdBits_split xs pos a 8 (by rw [HPOS.out,HN.out];omega),HPOS.out,HPJ.out]
     have:=rdBits_byte xs qj 0 8 (by rw [HN.out];exact hqn) (by omega) (by rw [HXQ.out];exact hx8)
     rw [Nat.add_zero,HXQ.out] at this
     rw [this,<- hR2,HRV.out,HPOS.out,Nat.sub_zero,Nat.sub_self,Nat.pow_zero,Nat.div_one,Nat.mod_eq_of_lt hx8])
    have HSN:=fun m=>Aside0.mk (srcSet1 (HSJ.out.drawn m) (.int .i64 ((qj:Int)+1)))
    have HTN:=fun m=>Aside0.mk ((HTJ.out.drawn m).trans (Turn.set _ s 1 (.int .i64 ((qj:Int)+1))))
    clear hR32 hR2 hqj
    go_wp2
    go_quiet (fail)
    go_wp2
    go_roundw
    case rel=>exact⟨j-8,qj+1,a+8,R2,by go_num,rfl,by omega,by omega,⟨by have:=HPJ.out;omega⟩,HRN,⟨(HSN _).out⟩,⟨(HTN _).out⟩⟩
    case measure=>simp [intOf];omega
   ·by_cases hj0:j=0
    ·subst hj0
     have HRE:=Aside0.mk (show R=rdBits xs pos k by rw [HRV.out,<- haj,Nat.add_zero])
     clear dx hqj hR32
     go_wp2
     go_ret2
     refine⟨by rw [<- HRE.out];rfl,⟨?_,HU.out.turn HTJ.out (srcBlk_ne HS.out HU.out)⟩,HTJ.out⟩
     have:=HPJ.out
     rw [HN.out,(capAt_turn HTJ.out (srcBlk_ne HS.out HU.out)).trans HCAP.out,HPOS.out,show (8*q+0+k)/8=qj by omega,show (8*q+0+k)%8=0 by omega]
     exact HSJ.out
    ·have dx:=dx (by omega)
     have hqn:=hqj (by omega)
     have hj7:j<=7:=by omega
     obtain⟨b2,hb2⟩:∃ b2,8-j=b2:=⟨_,rfl⟩
     obtain⟨M2,hM2⟩:∃ M2:Nat,255/2 ^ b2*2 ^ b2%256=M2:=⟨_,rfl⟩
     have hMi2:((255:Int)/2 ^ b2*2 ^ b2%256)=(M2:Int):=by rw [<- hM2];simp
     have hbi2:(8:Int)-(j:Int)=(b2:Int):=by omega
     go_wp2
     try rw [hb2]
     try rw [hMi2]
     try rw [hbi2]
     have hM28:M2<256:=by rw [<- hM2];exact Nat.mod_lt _ (by decide)
     have ha2:=u8_and_nat x M2 hx8 hM28
     obtain⟨y2,hy2⟩:∃ y2,x &&& M2=y2:=⟨_,rfl⟩
     have hy28:y2<256:=by rw [<- hy2];exact Nat.lt_of_le_of_lt Nat.and_le_left hx8
     rw [hy2] at ha2
     obtain⟨T2,hT2⟩:∃ T2:Nat,y2/2 ^ b2=T2:=⟨_,rfl⟩
     have hTi2:(y2:Int)/2 ^ b2=(T2:Int):=by rw [<- hT2];simp
     have hTm2:(y2:Int)/2 ^ min b2 8=(T2:Int):=by rw [Nat.min_eq_left (show b2<=8 by omega)];exact hTi2
     have hTv2:T2=x/2 ^ b2%2 ^ j:=by
      have:=mask_at x b2 j hx8 (by omega) (by omega)
      rw [hb2,hM2,hy2,hT2] at this
      exact this
     have hT2j:T2<2 ^ j:=by rw [hTv2];exact Nat.mod_lt _ (Nat.two_pow_pos j)
     have hT28:T2<256:=Nat.lt_of_lt_of_le hT2j (Nat.le_trans (Nat.pow_le_pow_right (by decide) (show j<=8 by omega)) (by decide))
     obtain⟨P,hP⟩:∃ P:Nat,R*2 ^ j=P:=⟨_,rfl⟩
     have hPi:(R:Int)*2 ^ j=(P:Int):=by rw [<- hP];simp
     have hP32:P<4294967296:=by
      have h1:R*2 ^ j<2 ^ a*2 ^ j:=Nat.mul_lt_mul_of_pos_right hR32 (Nat.two_pow_pos j)
      rw [<- Nat.pow_add,hP] at h1
      exact Nat.lt_of_lt_of_le h1 (Nat.le_trans (Nat.pow_le_pow_right (by decide) (show a+j<=32 by omega)) (by decide))
     obtain⟨V,hV⟩:∃ V,P+T2=V:=⟨_,rfl⟩
     have hor2:Go.bits .or .i64 (P:Int) (T2:Int)=(V:Int):=by
      have h1:=i64_or_nat P T2 (by omega) (by omega)
      have h2:=Nat.two_pow_add_eq_or_of_lt (i:=j) (b:=T2) hT2j R
      rw [Nat.mul_comm,hP,hV] at h2
      rw [h1,<- h2]
     have HVR:=Aside0.mk (show V=rdBits xs pos k by
      rw [<- haj,rdBits_split xs pos a j (by rw [HPOS.out,HN.out];omega),HPOS.out,HPJ.out]
      have:=rdBits_byte xs qj 0 j (by rw [HN.out];exact hqn) (by omega) (by rw [HXQ.out];exact hx8)
      rw [Nat.add_zero,HXQ.out,Nat.sub_zero,hb2,<- hTv2] at this
      rw [this,<- hV,<- hP,HRV.out,HPOS.out])
     clear hb2 hM2 hMi2 hbi2 hy2 hT2 hTv2 hT2j hP hV hR32 hqj
     go_quiet (fail)
     go_wp2
     go_ret2
     have hB:=srcSet2 (HSJ.out.drawn nq) (.int .i64 (j:Int))
     have hT:=(HTJ.out.drawn nq).trans (Turn.set _ s 2 (.int .i64 (j:Int)))
     refine⟨by rw [<- HVR.out];rfl,⟨?_,HU.out.turn hT (srcBlk_ne HS.out HU.out)⟩,hT⟩
     have:=HPJ.out
     rw [HN.out,(capAt_turn hT (srcBlk_ne HS.out HU.out)).trans HCAP.out,HPOS.out,show (8*q+0+k)/8=qj by omega,show (8*q+0+k)%8=j by omega]
     exact hB
 ·obtain⟨x,hx⟩:∃ x,xs.getD q 0=x:=⟨_,rfl⟩
  have hqn:q<n:=by omega
  have d0:w.cell? ⟨g,q,none⟩=some (.int .u8 (x:Int)):=by
   have:=HU.out.cell q (by rw [HN.out];exact hqn)
   rw [hx] at this
   exact this
  have ho1:1<=o:=by omega
  by_cases hkl:k<8-o
  ·go_wp2_with (go_at_call 106;refine kl.mono ?_;rintro e w' ⟨rfl,m1,rfl⟩)
   obtain⟨b,hb⟩:∃ b,8-o-k=b:=⟨_,rfl⟩
   obtain⟨M,hM⟩:∃ M:Nat,255/2 ^ (8-k)*2 ^ b%256=M:=⟨_,rfl⟩
   have hMi:((255:Int)/2 ^ (8-k)*2 ^ b%256)=(M:Int):=by rw [<- hM];simp
   have hbi:(8:Int)-(o:Int)-(k:Int)=(b:Int):=by omega
   rw [hb,hMi,hbi]
   have hx8:x<256:=by rw [<- hx];exact getD_lt HX.out q
   have hM8:M<256:=by rw [<- hM];exact Nat.mod_lt _ (by decide)
   have ha:=u8_and_nat x M hx8 hM8
   obtain⟨y,hy⟩:∃ y,x &&& M=y:=⟨_,rfl⟩
   have hy8:y<256:=by rw [<- hy];exact Nat.lt_of_le_of_lt Nat.and_le_left hx8
   rw [hy] at ha
   obtain⟨T,hT⟩:∃ T:Nat,y/2 ^ b=T:=⟨_,rfl⟩
   have hTi:(y:Int)/2 ^ b=(T:Int):=by rw [<- hT];simp
   have hTv:T=rdBits xs pos k:=by
    rw [HPOS.out,rdBits_byte xs q o k (by rw [HN.out];exact hqn) (by omega) (by rw [hx];exact hx8),hx,<- hT,<- hy,<- hM,hb]
    exact mask_at x b k hx8 hk (by omega)
   have HTV:=Aside0.mk hTv
   have hb7:b<=7:=by omega
   clear hb hM hMi hbi hx hy hT hTv
   go_quiet (fail)
   go_wp2
   go_ret2
   have hB:Blk ((w.drewN (m1+nq)).setCell ⟨s,2,none⟩ (.int .i64 ((o:Int)+(k:Int)))) s 226 #[.slice (some ⟨g,0,none⟩) n c,.int .i64 (q:Int),.int .i64 ((o:Int)+(k:Int))]:=srcSet2 (HS.out.drawn _) _
   have hT:Turn w ((w.drewN (m1+nq)).setCell ⟨s,2,none⟩ (.int .i64 ((o:Int)+(k:Int)))) s:=((Turn.refl w s).drawn _).trans (Turn.set _ _ _ _)
   refine⟨by rw [<- HTV.out];rfl,⟨?_,HU.out.turn hT (srcBlk_ne HS.out HU.out)⟩,hT⟩
   rw [HN.out,(capAt_turn hT (srcBlk_ne HS.out HU.out)).trans HCAP.out,HPOS.out,show (8*q+o+k)/8=q by omega,show (8*q+o+k)%8=o+k by omega,show ((o+k:Nat):Int)=(o:Int)+(k:Int) by omega]
   exact hB
  ·go_wp2_with (go_at_call 106;refine kl.mono ?_;rintro e w' ⟨rfl,m1,rfl⟩)
   obtain⟨M,hM⟩:∃ M:Nat,255/2 ^ (8-(8-o))%256=M:=⟨_,rfl⟩
   have hMi:((255:Int)/2 ^ (8-(8-o))%256)=(M:Int):=by rw [<- hM];simp
   rw [hMi]
   have hx8:x<256:=by rw [<- hx];exact getD_lt HX.out q
   have hM8:M<256:=by rw [<- hM];exact Nat.mod_lt _ (by decide)
   have ha:=u8_and_nat x M hx8 hM8
   obtain⟨T,hT⟩:∃ T,x &&& M=T:=⟨_,rfl⟩
   have hT8:T<256:=by rw [<- hT];exact Nat.lt_of_le_of_lt Nat.and_le_left hx8
   rw [hT] at ha
   obtain⟨ka,hka⟩:∃ ka,8-o=ka:=⟨_,rfl⟩
   have hTv:T=rdBits xs pos ka:=by
    have:=mask_at x 0 (8-o) hx8 (by omega) (by omega)
    rw [Nat.pow_zero,Nat.mul_one,Nat.div_one,hM,hT] at this
    rw [HPOS.out,rdBits_byte xs q o ka (by rw [HN.out];exact hqn) (by omega) (by rw [hx];exact hx8),hx,this,hka,Nat.sub_self,Nat.pow_zero]
   have HTV:=Aside0.mk hTv
   obtain⟨kr,hkr2⟩:∃ kr,k-ka=kr:=⟨_,rfl⟩
   have hkri:(k:Int)-(8-(o:Int))=(kr:Int):=by omega
   have h8:(o:Int)+(8-(o:Int))=8:=by omega
   obtain⟨qa,hqa⟩:∃ qa,q+1=qa:=⟨_,rfl⟩
   have HPA:=Aside0.mk (show 8*q+o+ka=8*qa by omega)
   clear hM hMi hx hT hTv
   by_cases hkr0:kr=0
   ·subst hkr0
    go_quiet (fail)
    go_wp2
    go_ret2
    have hka2:ka=k:=by omega
    subst hka2
    have hB:=srcSet1 (srcSet2 (srcSet2 (HS.out.drawn (m1+nq)) (.int .i64 8)) (.int .i64 0)) (.int .i64 ((q:Int)+1))
    have hT:=((((Turn.refl w s).drawn (m1+nq)).trans (Turn.set _ s 2 (.int .i64 8))).trans (Turn.set _ s 2 (.int .i64 0))).trans (Turn.set _ s 1 (.int .i64 ((q:Int)+1)))
    refine⟨by rw [<- HTV.out];rfl,⟨?_,HU.out.turn hT (srcBlk_ne HS.out HU.out)⟩,hT⟩
    have:=HPA.out
    rw [HN.out,(capAt_turn hT (srcBlk_ne HS.out HU.out)).trans HCAP.out,HPOS.out,show (8*q+o+ka)/8=q+1 by omega,show (8*q+o+ka)%8=0 by omega]
    exact hB
   ·go_quiet (fail)
    go_wp2
    have HSa:=Aside0.mk (srcSet1 (srcSet2 (srcSet2 (HS.out.drawn (m1+nq)) (.int .i64 8)) (.int .i64 0)) (.int .i64 ((q:Int)+1)))
    have HTa:=Aside0.mk (((((Turn.refl w s).drawn (m1+nq)).trans (Turn.set _ s 2 (.int .i64 8))).trans (Turn.set _ s 2 (.int .i64 0))).trans (Turn.set _ s 1 (.int .i64 ((q:Int)+1))))
    clear c0 c1 c2 f1 f2 kl d0
    rw [show ((q:Int)+1)=(qa:Int) by omega] at HSa HTa ⊢
    obtain⟨wa,hwa⟩:∃ wa,wa=(((w.drewN (m1+nq)).setCell ⟨s,2,none⟩ (.int .i64 8)).setCell ⟨s,2,none⟩ (.int .i64 0)).setCell ⟨s,1,none⟩ (.int .i64 (qa:Int)):=⟨_,rfl⟩
    rw [<- hwa] at HSa HTa ⊢
    clear hwa
    go_loopw [1,6] (fun vk vr wr=>∃ j qj a R:Nat,vk=.int .i64 (j:Int)/\vr=.int .i64 (R:Int)/\j<=kr/\a+j=k/\Aside0 (8*q+o+a=8*qj)/\Aside0 (R=rdBits xs pos a)/\Aside0 (Blk wr s 226 #[.slice (some ⟨g,0,none⟩) n c,.int .i64 (qj:Int),.int .i64 0])/\Aside0 (Turn w wr s)) (fun vk _ _=>(intOf vk).toNat)
    case atStart=>exact⟨kr,qa,ka,T,rfl,rfl,Nat.le_refl _,by omega,HPA,HTV,HSa,HTa⟩
    case round=>
     clear HSa HTa
     obtain⟨j,qj,a,R,rfl,rfl,hj,haj,HPJ,HRV,HSJ,HTJ⟩:=hrel
     have e0:wr.cell? ⟨s,0,none⟩=some (.slice (some ⟨g,0,none⟩) n c):=HSJ.out.cell 0
     have e1:wr.cell? ⟨s,1,none⟩=some (.int .i64 (qj:Int)):=HSJ.out.cell 1
     have e2:wr.cell? ⟨s,2,none⟩=some (.int .i64 0):=HSJ.out.cell 2
     have g1:wr.frozen? ⟨s,1,none⟩=false:=HSJ.out.frozen 1
     have g2:wr.frozen? ⟨s,2,none⟩=false:=HSJ.out.frozen 2
     have hqj:1<=j->qj<n:=by intro h;have:=HPJ.out;omega
     obtain⟨x,hx⟩:∃ x,xs.getD qj 0=x:=⟨_,rfl⟩
     have hx8:x<256:=by rw [<- hx];exact getD_lt HX.out qj
     have dx:1<=j->wr.cell? ⟨g,qj,none⟩=some (.int .u8 (x:Int)):=by
      intro h
      have:=(HU.out.turn HTJ.out (srcBlk_ne HS.out HU.out)).cell qj (by rw [HN.out];exact hqj h)
      rw [hx] at this
      exact this
     have hR32:R<2 ^ a:=by rw [HRV.out];exact rdBits_lt _ _ _
     have HXQ:=Aside0.mk hx
     clear hx
     by_cases hj8:8<=j
     ·have dx:=dx (by omega)
      have hqn:=hqj (by omega)
      have hR24:R<16777216:=Nat.lt_of_lt_of_le hR32 (Nat.le_trans (Nat.pow_le_pow_right (by decide) (show a<=24 by omega)) (by decide))
      have ra:=u8_and255 x hx8
      obtain⟨R2,hR2⟩:∃ R2,R*256+x=R2:=⟨_,rfl⟩
      have hor:Go.bits .or .i64 ((R:Int)*256) (x:Int)=(R2:Int):=by
       have h1:=i64_or_nat (R*256) x (by omega) (by omega)
       have h2:=Nat.two_pow_add_eq_or_of_lt (i:=8) (b:=x) hx8 R
       rw [show ((R*256:Nat):Int)=(R:Int)*256 by omega] at h1
       rw [h1,show R*256=2 ^ 8*R by omega,<- h2,<- hR2]
       congr 1
       omega
      have HRN:=Aside0.mk (show R2=rdBits xs pos (a+8) by
       rw [rdBits_split xs pos a 8 (by rw [HPOS.out,HN.out];omega),HPOS.out,HPJ.out]
       have:=rdBits_byte xs qj 0 8 (by rw [HN.out];exact hqn) (by omega) (by rw [HXQ.out];exact hx8)
       rw [Nat.add_zero,HXQ.out] at this
       rw [this,<- hR2,HRV.out,HPOS.out,Nat.sub_zero,Nat.sub_self,Nat.pow_zero,Nat.div_one,Nat.mod_eq_of_lt hx8])
      have HSN:=fun m=>Aside0.mk (srcSet1 (HSJ.out.drawn m) (.int .i64 ((qj:Int)+1)))
      have HTN:=fun m=>Aside0.mk ((HTJ.out.drawn m).trans (Turn.set _ s 1 (.int .i64 ((qj:Int)+1))))
      clear hR32 hR2 hqj
      go_wp2
      go_quiet (fail)
      go_wp2
      go_roundw
      case rel=>exact⟨j-8,qj+1,a+8,R2,by go_num,rfl,by omega,by omega,⟨by have:=HPJ.out;omega⟩,HRN,⟨(HSN _).out⟩,⟨(HTN _).out⟩⟩
      case measure=>simp [intOf];omega
     ·by_cases hj0:j=0
      ·subst hj0
       have HRE:=Aside0.mk (show R=rdBits xs pos k by rw [HRV.out,<- haj,Nat.add_zero])
       clear dx hqj hR32
       go_wp2
       go_ret2
       refine⟨by rw [<- HRE.out];rfl,⟨?_,HU.out.turn HTJ.out (srcBlk_ne HS.out HU.out)⟩,HTJ.out⟩
       have:=HPJ.out
       rw [HN.out,(capAt_turn HTJ.out (srcBlk_ne HS.out HU.out)).trans HCAP.out,HPOS.out,show (8*q+o+k)/8=qj by omega,show (8*q+o+k)%8=0 by omega]
       exact HSJ.out
      ·have dx:=dx (by omega)
       have hqn:=hqj (by omega)
       have hj7:j<=7:=by omega
       obtain⟨b2,hb2⟩:∃ b2,8-j=b2:=⟨_,rfl⟩
       obtain⟨M2,hM2⟩:∃ M2:Nat,255/2 ^ b2*2 ^ b2%256=M2:=⟨_,rfl⟩
       have hMi2:((255:Int)/2 ^ b2*2 ^ b2%256)=(M2:Int):=by rw [<- hM2];simp
       have hbi2:(8:Int)-(j:Int)=(b2:Int):=by omega
       go_wp2
       try rw [hb2]
       try rw [hMi2]
       try rw [hbi2]
       have hM28:M2<256:=by rw [<- hM2];exact Nat.mod_lt _ (by decide)
       have ha2:=u8_and_nat x M2 hx8 hM28
       obtain⟨y2,hy2⟩:∃ y2,x &&& M2=y2:=⟨_,rfl⟩
       have hy28:y2<256:=by rw [<- hy2];exact Nat.lt_of_le_of_lt Nat.and_le_left hx8
       rw [hy2] at ha2
       obtain⟨T2,hT2⟩:∃ T2:Nat,y2/2 ^ b2=T2:=⟨_,rfl⟩
       have hTi2:(y2:Int)/2 ^ b2=(T2:Int):=by rw [<- hT2];simp
       have hTm2:(y2:Int)/2 ^ min b2 8=(T2:Int):=by rw [Nat.min_eq_left (show b2<=8 by omega)];exact hTi2
       have hTv2:T2=x/2 ^ b2%2 ^ j:=by
        have:=mask_at x b2 j hx8 (by omega) (by omega)
        rw [hb2,hM2,hy2,hT2] at this
        exact this
       have hT2j:T2<2 ^ j:=by rw [hTv2];exact Nat.mod_lt _ (Nat.two_pow_pos j)
       have hT28:T2<256:=Nat.lt_of_lt_of_le hT2j (Nat.le_trans (Nat.pow_le_pow_right (by decide) (show j<=8 by omega)) (by decide))
       obtain⟨P,hP⟩:∃ P:Nat,R*2 ^ j=P:=⟨_,rfl⟩
       have hPi:(R:Int)*2 ^ j=(P:Int):=by rw [<- hP];simp
       have hP32:P<4294967296:=by
        have h1:R*2 ^ j<2 ^ a*2 ^ j:=Nat.mul_lt_mul_of_pos_right hR32 (Nat.two_pow_pos j)
        rw [<- Nat.pow_add,hP] at h1
        exact Nat.lt_of_lt_of_le h1 (Nat.le_trans (Nat.pow_le_pow_right (by decide) (show a+j<=32 by omega)) (by decide))
       obtain⟨V,hV⟩:∃ V,P+T2=V:=⟨_,rfl⟩
       have hor2:Go.bits .or .i64 (P:Int) (T2:Int)=(V:Int):=by
        have h1:=i64_or_nat P T2 (by omega) (by omega)
        have h2:=Nat.two_pow_add_eq_or_of_lt (i:=j) (b:=T2) hT2j R
        rw [Nat.mul_comm,hP,hV] at h2
        rw [h1,<- h2]
       have HVR:=Aside0.mk (show V=rdBits xs pos k by
        rw [<- haj,rdBits_split xs pos a j (by rw [HPOS.out,HN.out];omega),HPOS.out,HPJ.out]
        have:=rdBits_byte xs qj 0 j (by rw [HN.out];exact hqn) (by omega) (by rw [HXQ.out];exact hx8)
        rw [Nat.add_zero,HXQ.out,Nat.sub_zero,hb2,<- hTv2] at this
        rw [this,<- hV,<- hP,HRV.out,HPOS.out])
       clear hb2 hM2 hMi2 hbi2 hy2 hT2 hTv2 hT2j hP hV hR32 hqj
       go_quiet (fail)
       go_wp2
       go_ret2
       have hB:=srcSet2 (HSJ.out.drawn nq) (.int .i64 (j:Int))
       have hT:=(HTJ.out.drawn nq).trans (Turn.set _ s 2 (.int .i64 (j:Int)))
       refine⟨by rw [<- HVR.out];rfl,⟨?_,HU.out.turn hT (srcBlk_ne HS.out HU.out)⟩,hT⟩
       have:=HPJ.out
       rw [HN.out,(capAt_turn hT (srcBlk_ne HS.out HU.out)).trans HCAP.out,HPOS.out,show (8*q+o+k)/8=qj by omega,show (8*q+o+k)%8=j by omega]
       exact hB
end Go.Proofs.YtgccjgpdjkhpdaaGreat.B
