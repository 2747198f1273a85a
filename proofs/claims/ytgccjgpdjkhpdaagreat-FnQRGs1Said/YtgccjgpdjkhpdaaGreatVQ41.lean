import Derived.Test.YtgccjgpdjkhpdaaGreatVQ39
/-! Own texts of this claim, part 41. -/
namespace Go.Proofs.YtgccjgpdjkhpdaaGreat.B
open Go.RowKit Go.Proofs.YtgccjgpdjkhpdaaGreatW.PrintWords Go.Proofs.YtgccjgpdjkhpdaaGreatW.PrintLast Go.Proofs.YtgccjgpdjkhpdaaGreatW.PrintMore
set_option linter.unusedVariables false
set_option linter.unusedSimpArgs false
def offB (c d k:Nat):Nat:=k*d+(k-c)
theorem offB_zero (c d:Nat):offB c d 0=0:=by simp [offB]
theorem offB_succ (c d k:Nat):offB c d (k+1)=offB c d k+dl c d k:=by
 unfold offB dl
 rw [Nat.add_mul,Nat.one_mul]
 split<;>omega
theorem offB_mono (c d k:Nat):∀ m,offB c d k<=offB c d (k+m)
 | 0=>Nat.le_refl _
 | m+1=>by have:=offB_mono c d k m;rw [<- Nat.add_assoc,offB_succ];omega
theorem offB_end (c d c2:Nat):offB c d (c+c2)=d*(c+c2)+c2:=by
 unfold offB
 rw [Nat.mul_comm,show c+c2-c=c2 by omega]
def segB (c d:Nat)(ws:List Nat)(k:Nat):List Nat:=(ws.drop (offB c d k)).take (dl c d k)
theorem segB_len (c d:Nat)(ws:List Nat)(k:Nat)(h:offB c d k+dl c d k<=ws.length):(segB c d ws k).length=dl c d k:=by
 simp [segB];omega
def codeB (c d e:Nat)(ws:List Nat)(k:Nat):List Nat:=segB c d ws k++corrOf e (segB c d ws k)
theorem segB_lt (c d:Nat)(ws:List Nat)(k:Nat)(h:AllLt 8 ws):AllLt 8 (segB c d ws k):=fun x hx=>h x (List.mem_of_mem_drop (List.mem_of_mem_take hx))
theorem codeB_lt (c d e:Nat)(ws:List Nat)(k:Nat)(h:AllLt 8 ws):AllLt 8 (codeB c d e ws k):=by
 intro x hx
 rcases List.mem_append.1 hx with h1 | h1
 ·exact segB_lt c d ws k h x h1
 ·exact corrOf_lt _ _ x h1
theorem add_off (g o j:Nat):(⟨g,o,none⟩:Addr).add j=⟨g,o+j,none⟩:=by unfold Addr.add;split<;>simp_all
theorem ByteAt.reads {w:World}{q off:Nat}{ds:List Nat}(h:ByteAt w q off ds)(hl:ds.length<=1000000):ReadsInt w .u8 (some ⟨q,off,none⟩) ds.length (ints ds):=by
 refine⟨ints_len _,by omega,fun _=>⟨_,rfl,fun j hj=>?_⟩⟩
 rw [add_off,h j hj]
 simp [ints,List.getD_eq_getElem?_getD,List.getElem?_map,List.getElem?_eq_getElem hj]
theorem ByteAt.part {w:World}{q off m:Nat}{ds:List Nat}(h:ByteAt w q 0 ds):ByteAt w q off ((ds.drop off).take m):=by
 intro i hi
 have hl:i<m/\off+i<ds.length:=by simp at hi;omega
 have:=h (off+i) hl.2
 rw [Nat.zero_add] at this
 rw [this,List.getD_eq_getElem?_getD,List.getD_eq_getElem?_getD,List.getElem?_take_of_lt hl.1,List.getElem?_drop]
theorem UBlk.bytes {w:World}{q:Nat}{ds:List Nat}(h:UBlk w q ds):ByteAt w q 0 ds:=fun i hi=>by rw [Nat.zero_add];exact h.cell i hi
theorem own_bytes {w:World}{base n:Nat}{v:Value}{xs:List Nat}(h:w.ownsRow base 5 1 v n (nums .u8 (ints xs)))(h0:0<n) :
  ∃ q c,v=.slice (some ⟨q,0,none⟩) n c/\base<=q/\n<=c/\(∃ cs,Blk w q 5 cs)/\ByteAt w q 0 xs/\xs.length=n:=by
 obtain⟨hlen,h2⟩:=h
 have hxn:xs.length=n:=by rw [<- ints_len xs];simpa [nums] using hlen
 rcases h2 with⟨rfl,h3⟩ | ⟨q,c,cs,rfl,hb,hh,hc,hm,hs,ht⟩
 ·omega
 ·refine⟨q,c,rfl,hb,hc,⟨cs,hh⟩,fun i hi=>?_,hxn⟩
  rw [Nat.zero_add]
  have hk:=Blk.cell hh i
  rw [hk]
  have h5:(cs.toList.take n)[i]? = (nums .u8 (ints xs))[i]?:=by rw [Nat.mul_one] at ht;rw [ht]
  rw [List.getElem?_take_of_lt (by omega)] at h5
  rw [<- Array.getElem?_toList,h5]
  simp [nums,ints,List.getElem?_map,List.getElem?_eq_getElem hi,List.getD_eq_getElem?_getD]
structure BlkRows (w:World)(B:Nat)(vo:Value)(n:Nat)(code:Nat->List Nat)(qs cs:Nat->Nat):Prop where
 own:w.ownsRow B 26 1 vo n ((List.range n).map fun k=>.slice (some ⟨qs k,0,none⟩) (code k).length (cs k))
 blk:∀ k,k<n->B<=qs k/\(code k).length<=cs k/\(∃ ys,Blk w (qs k) 5 ys)/\ByteAt w (qs k) 0 (code k)
theorem BlkRows.below {w w':World}{B D:Nat}{vo:Value}{n:Nat}{code:Nat->List Nat}{qs cs:Nat->Nat}(h:BlkRows w B vo n code qs cs)(hb:Below D w w')(hD:w.heap.size<=D):BlkRows w' B vo n code qs cs:=by
 refine⟨own_move h.own fun k hk=>?_,fun k hk=>?_⟩
 ·obtain⟨cq,hq⟩:=own_blk h.own k hk
  exact hb.block k (Nat.lt_of_lt_of_le hq.lt hD)
 ·obtain⟨h1,h2,⟨ys,h3⟩,h4⟩:=h.blk k hk
  have hlt:=Nat.lt_of_lt_of_le h3.lt hD
  exact⟨h1,h2,⟨ys,h3.below hb hlt⟩,h4.below hb hlt⟩
theorem BlkRows.nil (w:World)(B:Nat)(code:Nat->List Nat)(qs cs:Nat->Nat):BlkRows w B (.slice none 0 0) 0 code qs cs:=⟨⟨rfl,.inl ⟨rfl,rfl⟩⟩,fun k hk=>absurd hk (by omega)⟩
theorem BlkRows.step {W w1:World}{B q c:Nat}{vo v1:Value}{n:Nat}{code:Nat->List Nat}{qs cs:Nat->Nat}{ys:Array Value}(h:BlkRows W B vo n code qs cs)(hq:B<=q)(hc:(code n).length<=c)(hy:Blk W q 5 ys)(hb:ByteAt W q 0 (code n))
  (ho:w1.ownsRow B 26 1 v1 (n+1) (((List.range n).map fun k=>(.slice (some ⟨qs k,0,none⟩) (code k).length (cs k):Value))++[.slice (some ⟨q,0,none⟩) (code n).length c])) (hg:W.grownBy w1 vo.ownBlock) :
  BlkRows w1 B v1 (n+1) code (fun k=>if k<n then qs k else q) (fun k=>if k<n then cs k else c):=by
 refine⟨?_,fun k hk=>?_⟩
 ·have e:((List.range (n+1)).map fun k=>(.slice (some ⟨if k<n then qs k else q,0,none⟩) (code k).length (if k<n then cs k else c):Value))=((List.range n).map fun k=>(.slice (some ⟨qs k,0,none⟩) (code k).length (cs k):Value))++[.slice (some ⟨q,0,none⟩) (code n).length c]:=by
   rw [List.range_succ,List.map_append,List.map_cons,List.map_nil,if_neg (by omega),if_neg (by omega)]
   congr 1
   apply List.map_congr_left
   intro k hk
   have:=List.mem_range.1 hk
   simp only [if_pos this]
  rw [e]
  exact ho
 ·have mv:∀ (g:Nat) (zs:Array Value),Blk W g 5 zs->w1.heap[g]? = W.heap[g]?:=fun g zs hz=>hg.block g hz.lt (own_ne h.own hz (by decide))
  have mb:∀ (g:Nat) (zs:Array Value) (ds:List Nat),Blk W g 5 zs->ByteAt W g 0 ds->ByteAt w1 g 0 ds:=fun g zs ds hz hd i hi=>by
   have:=hd i hi
   unfold World.cell? at this ⊢
   rw [mv g zs hz]
   exact this
  by_cases hkn:k<n
  ·simp only [if_pos hkn]
   obtain⟨h1,h2,⟨zs,h3⟩,h4⟩:=h.blk k hkn
   exact⟨h1,h2,⟨zs,(mv _ zs h3).trans h3⟩,mb _ zs _ h3 h4⟩
  ·obtain rfl:k=n:=by omega
   simp only [if_neg hkn]
   exact⟨hq,hc,⟨ys,(mv _ ys hy).trans hy⟩,mb _ ys _ hy hb⟩
set_option maxHeartbeats 4000000 in
set_option maxRecDepth 8000 in
theorem split27 (w:World)(v l q N cN:Nat)(ws:List Nat)(hv:1<=v/\v<=40)(hl:l<4)(hD:ByteAt w q 0 ws)(hq:q<w.heap.size)(hn:ws.length=N)(hr:N=roomD v l)(hw:AllLt 8 ws)(hc:N<=cN) :
  Calls Tryz.prog 27 #[.slice (some ⟨q,0,none⟩) N cN,.int .i64 (v:Int),.int .i64 (l:Int)] w fun e w'=>∃ vo qs cs,e=.returned vo/\BlkRows w' w.heap.size vo (lvC v l+lvC2 v l) (codeB (lvC v l) (lvD v l) (lvE v l) ws) qs cs/\Below w.heap.size w w':=by
 have k1:=corr55 w v l hv hl
 have K2:=Aside0.mk (fun W=>sizes62 W v l hv hl)
 have L:=lay_at v l hv hl
 have h1:=L.tot
 have h2:=(tot_row v hv).2
 have hc1:=L.c1
 have hcc:=L.cc
 have he1:=L.e1
 have he2:=L.e2
 have hd1:=L.d1
 have hd2:=L.d2
 unfold roomD at hr
 obtain⟨e,he⟩:∃ e,lvE v l=e:=⟨_,rfl⟩
 obtain⟨c,hcv⟩:∃ c,lvC v l=c:=⟨_,rfl⟩
 obtain⟨d,hd⟩:∃ d,lvD v l=d:=⟨_,rfl⟩
 obtain⟨c2,hc2⟩:∃ c2,lvC2 v l=c2:=⟨_,rfl⟩
 rw [he,hcv,hd,hc2] at h1
 rw [hcv,hc2] at hcc
 rw [he,hcv,hc2] at k1
 rw [hcv,hd,hc2] at K2 hr
 rw [he] at he1 he2
 rw [hcv] at hc1
 rw [hd] at hd1 hd2
 rw [hcv,hd,hc2,he]
 obtain⟨n,hnn⟩:∃ n,c+c2=n:=⟨_,rfl⟩
 have hend:=offB_end c d c2
 rw [hnn] at k1 K2 hr hend hcc h1 ⊢
 have hNN:offB c d n=N:=by omega
 have hN5:N<=5000:=by omega
 have HEND:=Aside0.mk hNN
 have HD:=Aside0.mk hD
 have HQ:=Aside0.mk hq
 have HN:=Aside0.mk hn
 have HW:=Aside0.mk hw
 have HE1:=Aside0.mk he1
 have HE2:=Aside0.mk he2
 have HD1:=Aside0.mk hd1
 have HD2:=Aside0.mk hd2
 have HCN:=Aside0.mk hc
 clear L h1 h2 he hcv hd hc2 hr hnn hend hNN hD hq hn hw he1 he2 hd1 hd2 hc hc1
 go_enter Tryz.func27,Tryz.ntmps27
 go_wp2_with (first | (go_at_call 55;refine k1.mono ?_;rintro e w1 ⟨rfl,hb1⟩;have HB1:=Aside0.mk hb1;clear hb1) | (go_at_call 62;refine (K2.out _).mono ?_;rintro e w2 ⟨gs,rfl,hgs,hI,hb2⟩;have HB2:=Aside0.mk (HB1.out.trans (hb2.mono HB1.out.size));have HI:=Aside0.mk hI;have HGS:=Aside0.mk (show w.heap.size<=gs from Nat.le_trans HB1.out.size hgs);clear hgs hb2 hI))
 clear k1
 go_loopw [9,10,24] (fun vo va vi wr=>∃ (i o:Nat) (qs cs:Nat->Nat),vi=.int .i64 (i:Int)/\va=.int .i64 (o:Int)/\i<=n/\o<=N/\Aside0 (o=offB c d i)/\Aside0 (BlkRows wr w.heap.size vo i (codeB c d e ws) qs cs)/\Aside0 (IBlk wr gs (sizesOf c d n))/\Aside0 (Below w.heap.size w wr)) (fun _ _ vi _=>(n-intOf vi).toNat)
 case atStart=>exact⟨0,0,fun _=>0,fun _=>0,rfl,rfl,Nat.zero_le _,Nat.zero_le _,⟨(offB_zero c d).symm⟩,⟨BlkRows.nil _ _ _ _ _⟩,HI,HB2⟩
 case round=>
  clear HI HB2
  obtain⟨i,o,qs,cs,rfl,rfl,hi,ho,HO,HR,HI,HB⟩:=hrel
  by_cases hin:i<n
  ·obtain⟨m,hm⟩:∃ m,dl c d i=m:=⟨_,rfl⟩
   have hnx:=offB_succ c d i
   rw [hm,<- HO.out] at hnx
   have hmn:=offB_mono c d (i+1) (n-(i+1))
   rw [show i+1+(n-(i+1))=n by omega,HEND.out,hnx] at hmn
   have hm0:0<m:=by rw [<- hm];unfold dl;have:=HD1.out;split<;>omega
   have hm2:m<=300:=by rw [<- hm];unfold dl;have:=HD2.out;split<;>omega
   have r0:=HI.out.cell i (by rw [sizesOf_len];exact hin)
   rw [sizesOf_get c d n i hin,hm] at r0
   obtain⟨ds,hds⟩:∃ ds,segB c d ws i=ds:=⟨_,rfl⟩
   have hdl:ds.length=m:=by rw [<- hds,segB_len c d ws i (by rw [hm,<- HO.out,HN.out];exact hmn),hm]
   have hd8:AllLt 8 ds:=by rw [<- hds];exact segB_lt c d ws i HW.out
   have HDW:=Aside0.mk (show ∀ W,Below wr.heap.size wr W->ByteAt W q o ds/\q<W.heap.size from fun W hW=>by
    have hqr:=Nat.lt_of_lt_of_le HQ.out HB.out.size
    have:=(HD.out.below HB.out HQ.out).below hW hqr
    refine⟨?_,Nat.lt_of_lt_of_le hqr hW.size⟩
    rw [<- hds,HO.out]
    unfold segB
    exact this.part)
   have HDC:=Aside0.mk (show codeB c d e ws i=ds++corrOf e ds by unfold codeB;rw [hds])
   have HNX:=Aside0.mk hnx.symm
   have HDL:=Aside0.mk hdl
   have HD8:=Aside0.mk hd8
   have hcn:=HCN.out
   have hmm:o+m-o=m:=by omega
   have HE:=Aside0.mk hmm
   have HM0:=Aside0.mk hm0
   have K63:=Aside0.mk (show ∀ W,Below wr.heap.size wr W->Calls Tryz.prog 63 #[.slice (some ⟨q,o,none⟩) m (cN-o),.int .i64 (e:Int)] W fun e0 w'=>∃ g,e0=.returned (.slice (some ⟨g,0,none⟩) e e)/\W.heap.size<=g/\UBlk w' g (corrOf e ds)/\Below W.heap.size W w' from fun W hW=>corr63 W q o m (cN-o) e ds (HDW.out W hW).1 (HDW.out W hW).2 HDL.out (by omega) HD8.out HE1.out (by have:=HE2.out;omega))
   have HR':=HR
   have he100:e<=100:=HE2.out
   clear hm hnx hds hdl hd8 hmm
   go_wp2_with (first
    | ((with_reducible refine gate_builtin (b:=.append) (xs:=#[.const (.slice none 0 0),.tmp 33]) rfl ?_);at_builtin;go_loud (refine print_append_row (w0:=wr) wr.heap.size rfl (.const (.slice none 0 0)) (.tmp 33) 26 5 .u8 1 rfl Tryz.underlying26 F.info5 (by decide) (.slice none 0 0) [] (ints ds) (some ⟨q,o,none⟩) m (cN-o) rfl (by first | rfl | simp [Act.eval,Act.put]) (own_nil' _ _) ?aR (Below.refl _ _) (Nat.le_refl _) ?aL ?_;(case aR=>(have h1:=ByteAt.reads (HDW.out _ (Below.refl _ _)).1 (by rw [HDL.out];omega);rw [HDL.out] at h1;exact h1));(case aL=>(simp;omega));intro v1 w1 ho1 hb1 hg1 hat1;rw [List.nil_append,ints_len,HDL.out] at ho1;obtain⟨A1,c1,hv1⟩:=own_slice ho1;subst hv1;have HO1:=Aside0.mk ho1;have HB1:=Aside0.mk hb1;clear ho1 hb1 hg1 hat1))
    | (go_at_call 63;go_loud (first | refine (K63.out _ HB1.out).mono ?_ | (rw [HE.out];refine (K63.out _ HB1.out).mono ?_));rintro e0 w3 ⟨g,rfl,hg,hU,hb3⟩;have HU:=Aside0.mk hU;have HG:=Aside0.mk hg;have HB3:=Aside0.mk hb3;have HO3:=Aside0.mk (own_move HO1.out fun k hk=>(by obtain⟨cs1,hbk⟩:=own_blk HO1.out k hk;exact hb3.block k hbk.lt));have HB13:=Aside0.mk (HB1.out.trans (hb3.mono HB1.out.size));clear hg hU hb3)
    | ((with_reducible refine gate_builtin (b:=.append) (xs:=#[.tmp 36,.tmp 44]) rfl ?_);at_builtin;go_loud (refine print_append_row (w0:=wr) wr.heap.size rfl (.tmp 36) (.tmp 44) 26 5 .u8 1 rfl Tryz.underlying26 F.info5 (by decide) (.slice A1 m c1) (ints ds) (ints (corrOf e ds)) (some ⟨g,0,none⟩) e e rfl rfl ?aO ?aR HB13.out HB13.out.size ?aL ?_;(case aO=>(rw [ints_len,HDL.out];exact HO3.out));(case aR=>(have h1:=ByteAt.reads HU.out.bytes (by rw [corrOf_len e ds HE1.out];omega);rw [corrOf_len e ds HE1.out] at h1;exact h1));(case aL=>(rw [ints_len,HDL.out];omega));intro v4 w4 ho4 hb4 hg4 hat4;rw [<- ints_append,<- HDC.out,ints_len] at ho4;have hcl:(codeB c d e ws i).length=m+e:=(by rw [HDC.out,List.length_append,HDL.out,corrOf_len e ds HE1.out]);rw [hcl] at ho4;obtain⟨q4,c4,hv4,hq4,hc4,⟨cs4,hbk4⟩,hby4,_⟩:=own_bytes ho4 (by omega);subst hv4;have HQ4:=Aside0.mk hq4;have HC4:=Aside0.mk hc4;have HBK4:=Aside0.mk hbk4;have HBY4:=Aside0.mk hby4;have HCL:=Aside0.mk hcl;have HB4:=Aside0.mk hb4;have HB4w:=Aside0.mk (HB.out.trans (hb4.mono HB.out.size));have HR4:=Aside0.mk (HR.out.below hb4 (Nat.le_refl _));have HI4:=Aside0.mk (Blk.below HI.out hb4 (Blk.lt HI.out));clear ho4 hb4 hg4 hat4 hq4 hc4 hbk4 hby4 hcl))
    | ((with_reducible refine gate_builtin (b:=.append) (xs:=#[.tmp 35,.tmp 46]) rfl ?_);at_builtin;go_loud (refine print_append (w0:=w) w.heap.size rfl (.tmp 35) (.tmp 46) 27 26 (.slice none 0 0) 24 rfl Tryz.underlying27 info26s rfl (by decide) _ ((List.range i).map fun k=>(.slice (some ⟨qs k,0,none⟩) (codeB c d e ws k).length (cs k):Value)) (.slice (some ⟨q4,0,none⟩) (m+e) c4) rfl rfl rfl ?bO HB4w.out HB4w.out.size ?bL ?_;(case bO=>(rw [List.length_map,List.length_range];exact HR4.out.own));(case bL=>(rw [List.length_map,List.length_range];omega));intro v5 w5 ho5 hb5 hg5 hat5;rw [List.length_append,List.length_map,List.length_range,List.length_singleton] at ho5;have HR5:=Aside0.mk (HR4.out.step (Nat.le_trans HB.out.size HQ4.out) (by rw [HCL.out];exact HC4.out) HBK4.out HBY4.out (by rw [HCL.out];exact ho5) hg5);have HB5:=Aside0.mk hb5;have HI5:=Aside0.mk (show IBlk w5 gs (sizesOf c d n) from (hg5.block gs (Blk.lt HI4.out) (own_ne HR4.out.own HI4.out (by decide))).trans HI4.out);clear ho5 hb5 hg5 hat5)))
   trace_state
   go_roundw
   case rel=>exact⟨i+1,o+m,_,_,by go_num,by go_num,by omega,hmn,HNX,HR5,HI5,HB5⟩
   case measure=>simp [intOf]<;>omega
  ·have:i=n:=by omega
   subst this
   go_wp2
   go_ret
   exact⟨_,qs,cs,rfl,HR.out,HB.out⟩
end Go.Proofs.YtgccjgpdjkhpdaaGreat.B
namespace Go.Proofs.YtgccjgpdjkhpdaaGreat.B
open Go.RowKit Go.Proofs.YtgccjgpdjkhpdaaGreatW.PrintWords Go.Proofs.YtgccjgpdjkhpdaaGreatW.PrintLast Go.Proofs.YtgccjgpdjkhpdaaGreatW.PrintMore
set_option linter.unusedVariables false
set_option linter.unusedSimpArgs false
section
variable (c d n:Nat) (code:Nat->Nat->Nat)
def mixA (i k:Nat):List Nat:=((List.range i).flatMap fun i=>(List.range n).flatMap fun k=>if i<dl c d k then [code k i] else [])++(List.range k).flatMap fun k=>if i<dl c d k then [code k i] else []
def mixB (i k:Nat):List Nat:=((List.range i).flatMap fun i=>(List.range n).map fun k=>code k (dl c d k+i))++(List.range k).map fun k=>code k (dl c d k+i)
theorem mixA_row (i:Nat):mixA c d n code i n=mixA c d n code (i+1) 0:=by
 unfold mixA
 rw [List.range_succ,List.flatMap_append,List.flatMap_cons,List.flatMap_nil,List.append_nil,List.range_zero,List.flatMap_nil,List.append_nil]
theorem mixA_yes (i k:Nat)(h:i<dl c d k):mixA c d n code i (k+1)=mixA c d n code i k++[code k i]:=by
 unfold mixA
 rw [List.range_succ,List.flatMap_append,List.flatMap_cons,List.flatMap_nil,List.append_nil,if_pos h,List.append_assoc]
theorem mixA_no (i k:Nat)(h:¬ i<dl c d k):mixA c d n code i (k+1)=mixA c d n code i k:=by
 unfold mixA
 rw [List.range_succ,List.flatMap_append,List.flatMap_cons,List.flatMap_nil,List.append_nil,if_neg h,List.append_nil]
theorem mixB_zero:mixB c d n code 0 0=[]:=rfl
theorem mixB_row (i:Nat):mixB c d n code i n=mixB c d n code (i+1) 0:=by
 unfold mixB
 rw [List.range_succ (n:=i),List.flatMap_append,List.flatMap_cons,List.flatMap_nil,List.append_nil,List.range_zero,List.map_nil,List.append_nil]
theorem mixB_next (i k:Nat):mixB c d n code i (k+1)=mixB c d n code i k++[code k (dl c d k+i)]:=by
 unfold mixB
 rw [List.range_succ (n:=k),List.map_append,List.map_cons,List.map_nil,List.append_assoc]
end
theorem mix_all (c d c2 e:Nat)(code:Nat->Nat->Nat):mixA c d (c+c2) code (d+1) 0++mixB c d (c+c2) code e 0=mixedW c d c2 e code:=by
 unfold mixA mixB mixedW
 simp only [List.range_zero,List.flatMap_nil,List.map_nil,List.append_nil]
theorem own_mono {w:World}{base base' n size:Nat}{e:TypeId}{v:Value}{xs:List Value}(h:w.ownsRow base e size v n xs)(hb:base'<=base):w.ownsRow base' e size v n xs:=by
 obtain⟨h1,h2⟩:=h
 refine⟨h1,?_⟩
 rcases h2 with h2 | ⟨g,c,cs,k1,k2,k3⟩
 ·exact .inl h2
 ·exact .inr ⟨g,c,cs,k1,Nat.le_trans hb k2,k3⟩
theorem BlkRows.open {w:World}{B:Nat}{vo:Value}{n:Nat}{code:Nat->List Nat}{qs cs:Nat->Nat}(h:BlkRows w B vo n code qs cs)(h0:0<n) :
  ∃ q c,vo=.slice (some ⟨q,0,none⟩) n c/\q<w.heap.size/\n<=c/\∀ k,k<n->w.cell? ⟨q,k,none⟩=some (.slice (some ⟨qs k,0,none⟩) (code k).length (cs k)):=by
 obtain⟨h1,h2⟩:=h.own
 rcases h2 with⟨_,h3⟩ | ⟨q,c,ys,rfl,hb,hh,hc,hm,hs,ht⟩
 ·omega
 ·refine⟨q,c,rfl,Blk.lt hh,hc,fun k hk=>?_⟩
  rw [Blk.cell hh k]
  have h5:(ys.toList.take n)[k]? = ((List.range n).map fun k=>(.slice (some ⟨qs k,0,none⟩) (code k).length (cs k):Value))[k]?:=by rw [Nat.mul_one] at ht;rw [ht]
  rw [List.getElem?_take_of_lt hk,List.getElem?_map,List.getElem?_range hk] at h5
  rw [<- Array.getElem?_toList,h5]
  rfl
theorem ints_one (x:Nat):ints [x]=[(x:Int)]:=rfl
set_option maxHeartbeats 4000000 in
set_option maxRecDepth 8000 in
theorem mixed26 (w:World)(v l B:Nat)(vo:Value)(ws:List Nat)(qs cs:Nat->Nat)(hv:1<=v/\v<=40)(hl:l<4)(hR:BlkRows w B vo (lvC v l+lvC2 v l) (codeB (lvC v l) (lvD v l) (lvE v l) ws) qs cs)(hr:ws.length=roomD v l)(hw:AllLt 8 ws) :
  Calls Tryz.prog 26 #[vo,.int .i64 (v:Int),.int .i64 (l:Int)] w fun e w'=>∃ v',e=.returned v'/\w'.ownsRow w.heap.size 5 1 v' (roomN v/8) (nums .u8 (ints (mixedW (lvC v l) (lvD v l) (lvC2 v l) (lvE v l) fun k i=>(codeB (lvC v l) (lvD v l) (lvE v l) ws k).getD i 0)))/\Below w.heap.size w w':=by
 have k1:=corr55 w v l hv hl
 have K2:=Aside0.mk (fun W=>sizes62 W v l hv hl)
 have L:=lay_at v l hv hl
 have hml:=mixed_len (lvC v l) (lvD v l) (lvC2 v l) (lvE v l) (fun k i=>(codeB (lvC v l) (lvD v l) (lvE v l) ws k).getD i 0)
 rw [L.tot] at hml
 have hall:=mix_all (lvC v l) (lvD v l) (lvC2 v l) (lvE v l) (fun k i=>(codeB (lvC v l) (lvD v l) (lvE v l) ws k).getD i 0)
 have hc1:=L.c1
 have hcc:=L.cc
 have he1:=L.e1
 have he2:=L.e2
 have hd1:=L.d1
 have hd2:=L.d2
 have hend:=offB_end (lvC v l) (lvD v l) (lvC2 v l)
 unfold roomD at hr
 rw [<- hend] at hr
 obtain⟨e,he⟩:∃ e,lvE v l=e:=⟨_,rfl⟩
 obtain⟨c,hcv⟩:∃ c,lvC v l=c:=⟨_,rfl⟩
 obtain⟨d,hd⟩:∃ d,lvD v l=d:=⟨_,rfl⟩
 obtain⟨c2,hc2⟩:∃ c2,lvC2 v l=c2:=⟨_,rfl⟩
 rw [hcv,hc2] at hcc
 rw [he,hcv,hc2] at k1
 rw [hcv,hd,hc2] at K2 hr
 rw [he] at he1 he2
 rw [hcv] at hc1
 rw [hd] at hd1 hd2
 rw [hcv,hd,hc2,he] at hR hml hall ⊢
 obtain⟨n,hnn⟩:∃ n,c+c2=n:=⟨_,rfl⟩
 rw [hnn] at k1 K2 hr hcc hR hall
 have hn0:0<n:=by omega
 obtain⟨qb,cb,hvo,hqb,hcb,hcell⟩:=hR.open hn0
 subst hvo
 obtain⟨code,hcode⟩:∃ code:Nat->Nat->Nat,code=fun k i=>(codeB c d e ws k).getD i 0:=⟨_,rfl⟩
 rw [<- hcode] at hml hall ⊢
 have hblk:∀ k,k<n->(codeB c d e ws k).length=dl c d k+e/\qs k<w.heap.size/\∀ x,x<dl c d k+e->w.cell? ⟨qs k,x,none⟩=some (.int .u8 ((code k x:Nat):Int)):=fun k hk=>by
  obtain⟨_,h2,⟨ys,h3⟩,h4⟩:=hR.blk k hk
  have hlen:(codeB c d e ws k).length=dl c d k+e:=by
   unfold codeB
   have hm:=offB_mono c d (k+1) (n-(k+1))
   rw [show k+1+(n-(k+1))=n by omega,offB_succ] at hm
   rw [List.length_append,corrOf_len e _ he1,segB_len c d ws k (by omega)]
  refine⟨hlen,h3.lt,fun x hx=>?_⟩
  have:=h4 x (by omega)
  rw [Nat.zero_add] at this
  rw [this,hcode]
 have h8:∀ k x,code k x<256:=fun k x=>by rw [hcode];exact getD_lt (codeB_lt c d e ws k hw) x
 have HB_:=Aside0.mk hblk
 have H8:=Aside0.mk h8
 have HC:=Aside0.mk hcell
 have HQB:=Aside0.mk hqb
 have HML:=Aside0.mk hml
 have HALL:=Aside0.mk hall
 have HN0:=Aside0.mk hn0
 have hdl0:dl c d 0=d:=by unfold dl;rw [if_pos (by omega)]
 have HDL0:=Aside0.mk hdl0
 have HDM:=Aside0.mk (show ∀ k,dl c d k<=d+1 from fun k=>by unfold dl;split<;>omega)
 have HE2:=Aside0.mk he2
 have HLK:∀ k,k<n->(codeB c d e ws k).length=dl c d k+e:=fun k hk=>(hblk k hk).1
 have HLL:=Aside0.mk HLK
 clear L hml hall hend hr he hcv hd hc2 hR hcell hblk h8 hcode hqb hw hc1 hdl0 he1 HLK hnn
 go_enter Tryz.func26,Tryz.ntmps26
 go_wp2_with (first | (go_at_call 55;refine k1.mono ?_;rintro e0 w1 ⟨rfl,hb1⟩;have HB1:=Aside0.mk hb1;clear hb1) | (go_at_call 62;refine (K2.out _).mono ?_;rintro e0 w2 ⟨gs,rfl,hgs,hI,hb2⟩;have HB2:=Aside0.mk (HB1.out.trans (hb2.mono HB1.out.size));have HI:=Aside0.mk hI;have HGS:=Aside0.mk (Blk.lt hI);clear hgs hb2 hI))
 clear k1
 have hW2:=HB2.out.size
 have HW2:=Aside0.mk hW2
 have HRD:=Aside0.mk (show ∀ W,Below w2.heap.size w2 W->(∀ k,k<n->W.cell? ⟨qb,k,none⟩=some (.slice (some ⟨qs k,0,none⟩) (codeB c d e ws k).length (cs k)))/\(∀ k,k<n->W.cell? ⟨gs,k,none⟩=some (.int .i64 ((dl c d k:Nat):Int)))/\(∀ k x,k<n->x<dl c d k+e->W.cell? ⟨qs k,x,none⟩=some (.int .u8 ((code k x:Nat):Int))) from fun W hW=>by
  have hb:Below w.heap.size w W:=HB2.out.trans (hW.mono HB2.out.size)
  refine⟨fun k hk=>(hb.cell (p:=⟨qb,k,none⟩) HQB.out).trans (HC.out k hk),fun k hk=>?_,fun k x hk hx=>(hb.cell (p:=⟨qs k,x,none⟩) (HB_.out k hk).2.1).trans ((HB_.out k hk).2.2 x hx)⟩
  have:=(IBlk.cell (Blk.below HI.out hW HGS.out) k (by rw [sizesOf_len];exact hk))
  rwa [sizesOf_get c d n k hk] at this)
 clear hW2
 go_loopw [10,11] (fun vo vi wr=>∃ (i m cm:Nat) (A:Option Addr),vi=.int .i64 (i:Int)/\vo=.slice A m cm/\i<=d+1/\m<=100*i/\Aside0 (m=(mixA c d n code i 0).length)/\Aside0 (wr.ownsRow w2.heap.size 5 1 (.slice A m cm) m (nums .u8 (ints (mixA c d n code i 0))))/\Aside0 (Below w2.heap.size w2 wr)) (fun _ vi _=>(d+1-intOf vi).toNat)
 case atStart=>exact⟨0,0,0,none,rfl,rfl,by omega,by omega,⟨rfl⟩,⟨⟨rfl,.inl ⟨rfl,rfl⟩⟩⟩,⟨Below.refl _ _⟩⟩
 case round=>
  obtain⟨i,m,cm,A,rfl,rfl,hi,hm,HM,HO,HB⟩:=hrel
  have r0:=(HRD.out _ HB.out).2.1 0 HN0.out
  rw [HDL0.out] at r0
  have hn0i:(0:Int)<(n:Int):=by omega
  by_cases hid:i<=d
  ·have hidi:(i:Int)<=(d:Int):=by omega
   go_wp2
   go_loopw [10,35] (fun vo vk wr=>∃ (k m cm:Nat) (A:Option Addr),vk=.int .i64 (k:Int)/\vo=.slice A m cm/\k<=n/\m<=100*i+k/\Aside0 (m=(mixA c d n code i k).length)/\Aside0 (wr.ownsRow w2.heap.size 5 1 (.slice A m cm) m (nums .u8 (ints (mixA c d n code i k))))/\Aside0 (Below w2.heap.size w2 wr)) (fun _ vk _=>(n-intOf vk).toNat)
   case atStart=>exact⟨0,m,cm,A,rfl,rfl,by omega,by omega,HM,HO,HB⟩
   case round=>
    clear HM HO HB r0
    obtain⟨k,m,cm,A,rfl,rfl,hk,hm,HM,HO,HB⟩:=hrel
    by_cases hkn:k<n
    ·obtain⟨R1,R2,R3⟩:=HRD.out _ HB.out
     have r1:=R1 k hkn
     have r2:=R2 k hkn
     obtain⟨L,hL⟩:∃ L,(codeB c d e ws k).length=L:=⟨_,rfl⟩
     have hLk:=HLL.out k hkn
     rw [hL] at r1 hLk
     obtain⟨D,hD⟩:∃ D,dl c d k=D:=⟨_,rfl⟩
     have hD1:=HDM.out k
     rw [hD] at r2 hLk hD1
     obtain⟨qk,hqk⟩:∃ qk,qs k=qk:=⟨_,rfl⟩
     rw [hqk] at r1
     by_cases hiD:i<D
     ·obtain⟨x,hx⟩:∃ x,code k i=x:=⟨_,rfl⟩
      have hx8:x<256:=by rw [<- hx];exact H8.out k i
      have r3:=R3 k i hkn (by rw [hD];omega)
      rw [hx,hqk] at r3
      have hnx:=mixA_yes c d n code i k (by rw [hD];exact hiD)
      rw [hx] at hnx
      have HNX:=Aside0.mk hnx.symm
      have HML6:=Aside0.mk (show m+1=(mixA c d n code i (k+1)).length by rw [hnx,List.length_append,<- HM.out];rfl)
      clear R1 R2 R3 hL hD hqk hx hnx
      go_wp2_with (first | ((with_reducible refine gate_builtin (b:=.append) (xs:=#[.tmp 46,.tmp 51]) rfl ?_);at_builtin;refine print_append_num (w0:=w2) w2.heap.size rfl (.tmp 46) (.tmp 51) 26 5 .u8 1 rfl Tryz.underlying26 F.info5 (by decide) (.slice A m cm) (ints (mixA c d n code i k)) (x:Int) rfl rfl ?aO HB.out HB.out.size ?aL ?_;(case aO=>(rw [ints_len,<- HM.out];exact HO.out));(case aL=>(rw [ints_len,<- HM.out];omega));intro v6 w6 ho6 hb6 hg6 hat6;rw [<- ints_one,<- ints_append,HNX.out,ints_len,<- HML6.out] at ho6;obtain⟨A6,c6,hv6⟩:=own_slice ho6;subst hv6;have HO6:=Aside0.mk ho6;have HB6:=Aside0.mk hb6;clear ho6 hb6 hg6 hat6))
      go_roundw
      case rel=>exact⟨k+1,m+1,c6,A6,by go_num,rfl,by omega,by omega,HML6,HO6,HB6⟩
      case measure=>simp [intOf]<;>omega
     ·have hnx:=mixA_no c d n code i k (by rw [hD];exact hiD)
      have HM1:=Aside0.mk (show m=(mixA c d n code i (k+1)).length by rw [hnx];exact HM.out)
      have HO1:=Aside0.mk (show wr.ownsRow w2.heap.size 5 1 (.slice A m cm) m (nums .u8 (ints (mixA c d n code i (k+1)))) by rw [hnx];exact HO.out)
      clear R1 R2 R3 hL hD hqk hnx
      go_wp2
      go_roundw
      case rel=>exact⟨k+1,m,cm,A,by go_num,rfl,by omega,by omega,HM1,HO1,HB⟩
      case measure=>simp [intOf]<;>omega
    ·have:k=n:=by omega
     subst this
     go_wp2
     go_roundw
     case rel=>exact⟨i+1,m,cm,A,by go_num,rfl,by omega,by omega,⟨by rw [<- mixA_row];exact HM.out⟩,⟨by rw [<- mixA_row];exact HO.out⟩,HB⟩
     case measure=>simp [intOf]<;>omega
  ·have:i=d+1:=by omega
   subst this
   have hidi:¬ ((d+1:Nat):Int)<=(d:Int):=by omega
   obtain⟨preA,hpre⟩:∃ preA,mixA c d n code (d+1) 0=preA:=⟨_,rfl⟩
   rw [hpre] at HM HO
   rw [hpre] at HALL
   clear hpre
   obtain⟨di,hdi⟩:∃ di,d+1=di:=⟨_,rfl⟩
   rw [hdi] at hidi hm ⊢
   have hdi2:di<=201:=by omega
   clear hi hid hdi
   go_wp2
   clear r0
   go_loopw [10,14] (fun vo vi wr=>∃ (i m cm:Nat) (A:Option Addr),vi=.int .i64 (i:Int)/\vo=.slice A m cm/\i<=e/\m<=21000+100*i/\Aside0 (m=(preA++mixB c d n code i 0).length)/\Aside0 (wr.ownsRow w2.heap.size 5 1 (.slice A m cm) m (nums .u8 (ints (preA++mixB c d n code i 0))))/\Aside0 (Below w2.heap.size w2 wr)) (fun _ vi _=>(e-intOf vi).toNat)
   case atStart=>exact⟨0,m,cm,A,rfl,rfl,by omega,by omega,⟨by rw [mixB_zero,List.append_nil];exact HM.out⟩,⟨by rw [mixB_zero,List.append_nil];exact HO.out⟩,HB⟩
   case round=>
    clear HM HO HB hidi hm hdi2
    obtain⟨i,m,cm,A,rfl,rfl,hi,hm,HM,HO,HB⟩:=hrel
    by_cases hie:i<e
    ·go_wp2
     go_loopw [10,61] (fun vo vk wr=>∃ (k m cm:Nat) (A:Option Addr),vk=.int .i64 (k:Int)/\vo=.slice A m cm/\k<=n/\m<=21000+100*i+k/\Aside0 (m=(preA++mixB c d n code i k).length)/\Aside0 (wr.ownsRow w2.heap.size 5 1 (.slice A m cm) m (nums .u8 (ints (preA++mixB c d n code i k))))/\Aside0 (Below w2.heap.size w2 wr)) (fun _ vk _=>(n-intOf vk).toNat)
     case atStart=>exact⟨0,m,cm,A,rfl,rfl,by omega,by omega,HM,HO,HB⟩
     case round=>
      clear HM HO HB
      obtain⟨k,m,cm,A,rfl,rfl,hk,hm,HM,HO,HB⟩:=hrel
      by_cases hkn:k<n
      ·obtain⟨R1,R2,R3⟩:=HRD.out _ HB.out
       have r1:=R1 k hkn
       have r2:=R2 k hkn
       obtain⟨L,hL⟩:∃ L,(codeB c d e ws k).length=L:=⟨_,rfl⟩
       have hLk:=HLL.out k hkn
       rw [hL] at r1 hLk
       obtain⟨D,hD⟩:∃ D,dl c d k=D:=⟨_,rfl⟩
       have hD1:=HDM.out k
       rw [hD] at r2 hLk hD1
       obtain⟨qk,hqk⟩:∃ qk,qs k=qk:=⟨_,rfl⟩
       rw [hqk] at r1
       obtain⟨p,hp⟩:∃ p,D+i=p:=⟨_,rfl⟩
       have hpi:(D:Int)+(i:Int)=(p:Int):=by omega
       have hpL:p<L:=by omega
       obtain⟨x,hx⟩:∃ x,code k p=x:=⟨_,rfl⟩
       have hx8:x<256:=by rw [<- hx];exact H8.out k p
       have r3:=R3 k p hkn (by rw [hD];omega)
       rw [hx,hqk] at r3
       have hnx:=mixB_next c d n code i k
       rw [hD,hp,hx] at hnx
       have hnx2:preA++mixB c d n code i (k+1)=preA++mixB c d n code i k++[x]:=by rw [hnx,List.append_assoc]
       have HNX:=Aside0.mk hnx2.symm
       have HML6:=Aside0.mk (show m+1=(preA++mixB c d n code i (k+1)).length by rw [hnx2,List.length_append,<- HM.out];rfl)
       clear R1 R2 R3 hL hD hqk hx hnx hnx2 hp
       go_wp2_with (first | ((with_reducible refine gate_builtin (b:=.append) (xs:=#[.tmp 66,.tmp 76]) rfl ?_);at_builtin;refine print_append_num (w0:=w2) w2.heap.size rfl (.tmp 66) (.tmp 76) 26 5 .u8 1 rfl Tryz.underlying26 F.info5 (by decide) (.slice A m cm) (ints (preA++mixB c d n code i k)) (x:Int) rfl rfl ?aO HB.out HB.out.size ?aL ?_;(case aO=>(rw [ints_len,<- HM.out];exact HO.out));(case aL=>(rw [ints_len,<- HM.out];omega));intro v6 w6 ho6 hb6 hg6 hat6;rw [<- ints_one,<- ints_append,HNX.out,ints_len,<- HML6.out] at ho6;obtain⟨A6,c6,hv6⟩:=own_slice ho6;subst hv6;have HO6:=Aside0.mk ho6;have HB6:=Aside0.mk hb6;clear ho6 hb6 hg6 hat6))
       go_roundw
       case rel=>exact⟨k+1,m+1,c6,A6,by go_num,rfl,by omega,by omega,HML6,HO6,HB6⟩
       case measure=>simp [intOf]<;>omega
      ·have:k=n:=by omega
       subst this
       go_wp2
       go_roundw
       case rel=>exact⟨i+1,m,cm,A,by go_num,rfl,by omega,by omega,⟨by rw [<- mixB_row];exact HM.out⟩,⟨by rw [<- mixB_row];exact HO.out⟩,HB⟩
       case measure=>simp [intOf]<;>omega
    ·have:i=e:=by omega
     subst this
     go_wp2
     go_ret
     have h1:=HO.out
     have h2:=HM.out
     have h3:=HALL.out
     refine⟨_,rfl,?_,HB2.out.trans (HB.out.mono HW2.out)⟩
     rw [h3] at h1 h2
     rw [HML.out] at h2
     rw [h2] at h1 ⊢
     exact own_mono h1 HW2.out
end Go.Proofs.YtgccjgpdjkhpdaaGreat.B
namespace Go.Proofs.YtgccjgpdjkhpdaaGreat.B
open Go.RowKit Go.Proofs.YtgccjgpdjkhpdaaGreatW.PrintWords Go.Proofs.YtgccjgpdjkhpdaaGreatW.PrintLast Go.Proofs.YtgccjgpdjkhpdaaGreatW.PrintMore
set_option linter.unusedVariables false
set_option linter.unusedSimpArgs false
theorem stream_next (xs:List Nat)(i:Nat)(h:i<xs.length):streamBits (xs.take (i+1))=streamBits (xs.take i)++natBits (xs.getD i 0) 8:=by
 unfold streamBits
 rw [List.take_succ_eq_append_getElem h,List.flatMap_append,List.flatMap_cons,List.flatMap_nil,List.append_nil,List.getD_eq_getElem?_getD,List.getElem?_eq_getElem h]
 rfl
set_option maxHeartbeats 1000000 in
set_option maxRecDepth 8000 in
theorem bits29 (w:World)(q N cN:Nat)(xs:List Nat)(hD:ByteAt w q 0 xs)(hq:q<w.heap.size)(hn:xs.length=N)(hN:N<=100000)(hx:AllLt 8 xs) :
  Calls Tryz.prog 29 #[.slice (some ⟨q,0,none⟩) N cN] w fun e w'=>∃ v',e=.returned v'/\BOwn w' w.heap.size v' (streamBits xs)/\Below w.heap.size w w':=by
 have HD:=Aside0.mk hD
 have HQ:=Aside0.mk hq
 have HN:=Aside0.mk hn
 have HX:=Aside0.mk hx
 clear hD hq hn hx
 go_enter Tryz.func29,Tryz.ntmps29
 go_wp2
 go_loopw [3,8] (fun vo vi wr=>∃ i:Nat,vi=.int .i64 (i:Int)/\i<=N/\Aside0 (BOwn wr w.heap.size vo (streamBits (xs.take i)))/\Aside0 (Below w.heap.size w wr)) (fun _ vi _=>(N-intOf vi).toNat)
 case atStart=>exact⟨0,rfl,Nat.zero_le _,⟨⟨rfl,.inl ⟨rfl,rfl⟩⟩⟩,⟨Below.refl _ _⟩⟩
 case round=>
  obtain⟨i,rfl,hi,HO,HB⟩:=hrel
  by_cases hin:i<N
  ·obtain⟨x,hxx⟩:∃ x,xs.getD i 0=x:=⟨_,rfl⟩
   have hx8:x<256:=by rw [<- hxx];exact getD_lt HX.out i
   have r0:=(HD.out.below HB.out HQ.out) i (by rw [HN.out];exact hin)
   rw [Nat.zero_add,hxx] at r0
   have hnx:=stream_next xs i (by rw [HN.out];exact hin)
   rw [hxx] at hnx
   have kad:=qrAddI w wr w.heap.size x 8 _ _ (x:Int) 8 rfl rfl HO.out HB.out HB.out.size (by omega) (by decide) (by rw [streamBits_len,List.length_take];omega)
   rw [<- hnx] at kad
   clear hnx hxx
   go_wp2_with (go_at_call 66;with_reducible (refine kad.mono ?_);rintro e w2 ⟨v2,rfl,hO2,hB2,hG2⟩;have HO2:=Aside0.mk hO2;have HB2:=Aside0.mk hB2;clear hO2 hB2 hG2)
   go_roundw
   case rel=>exact⟨i+1,by go_num,by omega,HO2,HB2⟩
   case measure=>simp [intOf]<;>omega
  ·have:i=N:=by omega
   subst this
   go_wp2
   go_ret
   exact⟨_,rfl,by have:=HO.out;rwa [List.take_of_length_le (by rw [HN.out];omega)] at this,HB.out⟩
structure Brows (w:World)(B g n:Nat)(q cp:Nat->Nat)(cf:Nat->Nat->Bool):Prop where
 base:B<=g
 blk:∃ cells,Blk w g 45 cells/\cells.size=cp n/\cp n<=maxLen
 row:∀ r,r<n->w.cell? ⟨g,r,none⟩=some (.slice (some ⟨q r,0,none⟩) n (cp r))/\B<=q r/\n<=cp r/\(∃ cells,Blk w (q r) 4 cells)/\∀ c,c<n->w.cell? ⟨q r,c,none⟩=some (.bool (cf r c))
 inj:∀ r s,r<n->s<n->q r=q s->r=s
theorem Brows.below {w w':World}{B D g n:Nat}{q cp:Nat->Nat}{cf:Nat->Nat->Bool}(h:Brows w B g n q cp cf)(hb:Below D w w')(hD:w.heap.size<=D):Brows w' B g n q cp cf:=by
 obtain⟨h1,⟨cs,h2,hz⟩,h3,h4⟩:=h
 have hg:=Nat.lt_of_lt_of_le (Blk.lt h2) hD
 refine⟨h1,⟨cs,Blk.below h2 hb hg,hz⟩,fun r hr=>?_,h4⟩
 obtain⟨k1,k2,k3,⟨ys,k4⟩,k5⟩:=h3 r hr
 have hq:=Nat.lt_of_lt_of_le (Blk.lt k4) hD
 exact⟨(hb.cell (p:=⟨g,r,none⟩) hg).trans k1,k2,k3,⟨ys,Blk.below k4 hb hq⟩,fun c hc=>(hb.cell (p:=⟨q r,c,none⟩) hq).trans (k5 c hc)⟩
theorem Brows.set {w:World}{B g n:Nat}{q cp:Nat->Nat}{cf:Nat->Nat->Bool}(h:Brows w B g n q cp cf)(r c:Nat)(b:Bool)(hr:r<n)(hc:c<n) :
  Brows (w.setCell ⟨q r,c,none⟩ (.bool b)) B g n q cp (fun r' c'=>if r'=r/\c'=c then b else cf r' c'):=by
 obtain⟨h1,⟨cs,h2,hz⟩,h3,h4⟩:=h
 obtain⟨_,_,_,⟨yr,kr⟩,kc⟩:=h3 r hr
 have hgq:g≠q r:=blk_ne h2 kr (by decide)
 refine⟨h1,⟨cs,h2.far (p:=⟨q r,c,none⟩) hgq _,hz⟩,fun s hs=>?_,h4⟩
 obtain⟨k1,k2,k3,⟨ys,k4⟩,k5⟩:=h3 s hs
 refine⟨by rw [World.cell?_setCell_other _ _ _ _ (fun e=>hgq (congrArg Addr.block e).symm)];exact k1,k2,k3,?_,fun x hx=>?_⟩
 ·by_cases hsr:q s=q r
  ·obtain rfl:=h4 s r hs hr hsr
   exact⟨_,blk_set k4 c (.bool b)⟩
  ·exact⟨ys,k4.far (p:=⟨q r,c,none⟩) hsr _⟩
 ·by_cases hsr:s=r
  ·subst hsr
   by_cases hxc:x=c
   ·subst hxc
    rw [if_pos ⟨rfl,rfl⟩]
    exact World.cell?_setCell_same _ _ _ (k5 x hx)
   ·rw [if_neg (fun h=>hxc h.2),World.cell?_setCell_other _ _ _ _ (fun e=>hxc (congrArg Addr.off e).symm)]
    exact k5 x hx
  ·rw [if_neg (fun h=>hsr h.1),World.cell?_setCell_other _ _ _ _ (fun e=>hsr (h4 s r hs hr (congrArg Addr.block e).symm))]
   exact k5 x hx
theorem rd_row (n:Nat)(cf:Nat->Nat->Bool)(r:Nat)(hr:r<n):(rowsOfB n cf n)[r]? = some (rowOfB n cf r):=by
 unfold rowsOfB
 rw [List.getElem?_map,List.getElem?_range hr]
 rfl
theorem rows_open {w:World}{base:Nat}{ok:Nat->Prop}{v:Value}{n:Nat}{cf:Nat->Nat->Bool}(h:Kd.S (Kd.slice 4 Kd.bool) 45 w base ok v (rowsOfB n cf n))(h0:0<n) :
  ∃ g cap q cp,v=.slice (some ⟨g,0,none⟩) n cap/\(n<=cap/\cp n=cap)/\Brows w base g n q cp cf:=by
 obtain⟨f,h⟩:=h
 have hl:(rowsOfB n cf n).zipIdx.length=n:=by rw [List.length_zipIdx,rowsOfB_len]
 obtain⟨g,cap,hv,hb,hg,hcells⟩:=Kd.R_form h (by omega)
 rw [hl] at hv
 subst hv
 obtain⟨_,hnc,_⟩:=Kd.R_reads' h
 have hsz:∃ cells,Blk w g 45 cells/\cells.size=cap/\cap<=maxLen:=by
  obtain⟨_,inner,⟨_,ho⟩,_⟩:=h
  rcases ho with⟨hv,_⟩ | ⟨g',cap',cur,hv,_,hh,_,hm,hs,_⟩
  ·cases hv
  ·injection hv with e1 e2 e3
   injection e1 with e1
   injection e1 with e1
   subst e1 e3
   have hs':cur.size=cap*1:=hs
   exact⟨cur,hh,by omega,hm⟩
 have hex:∀ r,∃ qc:Nat×Nat,(¬ r<n->qc.2=cap)/\(r<n->w.cell? ⟨g,r,none⟩=some (.slice (some ⟨qc.1,0,none⟩) n qc.2)/\base<=qc.1/\n<=qc.2/\(∃ cells,Blk w qc.1 4 cells)/\(∀ c,c<n->w.cell? ⟨qc.1,c,none⟩=some (.bool (cf r c)))/\f qc.1=r):=fun r=>by
  by_cases hr:r<n
  ·obtain⟨c,hcl,hM,hcc,_⟩:=Kd.R_elem h (([]:List Bool),0) (r:Int) (by omega) (by omega)
   have hget:(rowsOfB n cf n).zipIdx.getD (r:Int).toNat (([]:List Bool),0)=(rowOfB n cf r,r):=by
    rw [Int.toNat_natCast,List.getD_eq_getElem?_getD,List.getElem?_zipIdx,rd_row n cf r hr]
    simp
   rw [hget] at hM
   obtain⟨v',rfl,hR⟩:=hM
   have hrl:(rowOfB n cf r).length=n:=by simp [rowOfB]
   obtain⟨q,cq,hv',hbq,hlq,ys,hys⟩:=Kd.R_form hR (by show 0<(rowOfB n cf r).length;omega)
   rw [show ((rowOfB n cf r,r).1).length=n from hrl] at hv'
   subst hv'
   obtain⟨_,hncq,_⟩:=Kd.R_reads' hR
   refine⟨(q,cq),fun h=>absurd hr h,fun _=>⟨?_,hbq,hncq,⟨ys,hys⟩,fun c hc=>?_,?_⟩⟩
   ·have:=hcc 0 _ rfl
    have e:(r:Int).toNat*(Kd.tag f (Kd.slice 4 Kd.bool)).sz+0=r:=by show (r:Int).toNat*1+0=r;omega
    rw [e] at this
    exact this
   ·obtain⟨c2,hcl2,hM2,hcc2,_⟩:=Kd.R_elem hR false (c:Int) (by omega) (by omega)
    have hget2:(rowOfB n cf r).getD (c:Int).toNat false=cf r c:=by
     rw [Int.toNat_natCast,List.getD_eq_getElem?_getD]
     simp [rowOfB,List.getElem?_map,List.getElem?_range hc]
    rw [hget2] at hM2
    have hM3:c2=[.bool (cf r c)]:=hM2
    have:=hcc2 0 (.bool (cf r c)) (by rw [hM3];rfl)
    have e:(c:Int).toNat*Kd.bool.sz+0=c:=by show (c:Int).toNat*1+0=c;omega
    rw [e] at this
    exact this
   ·have:=hR.1 q rfl
    exact this.2
  ·exact⟨(0,cap),fun _=>rfl,fun h=>absurd h hr⟩
 refine⟨g,cap,fun r=>(hex r).choose.1,fun r=>(hex r).choose.2,rfl,⟨hnc,(hex n).choose_spec.1 (Nat.lt_irrefl n)⟩,⟨hb,by rw [(hex n).choose_spec.1 (Nat.lt_irrefl n)];exact hsz,fun r hr=>?_,fun r s hr hs he=>?_⟩⟩
 ·obtain⟨k1,k2,k3,k4,k5,_⟩:=(hex r).choose_spec.2 hr
  exact⟨k1,k2,k3,k4,k5⟩
 ·have k1:=((hex r).choose_spec.2 hr).2.2.2.2.2
  have k2:=((hex s).choose_spec.2 hs).2.2.2.2.2
  rw [<- k1,<- k2,he]
theorem info118:(Tryz.prog.info? 118).map (fun i=>(i.zero,i.size,i.bytes))=some (some (.agg #[.int .i64 0,.int .i64 0]),2,16):=by kernel_rfl
def wayCells (xs:List (Nat×Nat)):List Value:=xs.flatMap fun p=>[.int .i64 (p.1:Int),.int .i64 (p.2:Int)]
theorem wayCells_snoc (xs:List (Nat×Nat))(p:Nat×Nat):wayCells (xs++[p])=wayCells xs++[.int .i64 (p.1:Int),.int .i64 (p.2:Int)]:=by
 unfold wayCells
 rw [List.flatMap_append]
 simp
theorem dim46 (w:World)(v:Nat)(hv:1<=v/\v<=40):Calls Tryz.prog 46 #[.int .i64 (v:Int)] w fun e w'=>e=.returned (.int .i64 ((17+4*v:Nat):Int))/\Below w.heap.size w w':=by
 have h:=dim_f (v:Int) (by omega)
 refine (F.spec_QRDimension.calls v _ w h).mono ?_
 rintro e w' ⟨rfl,hb⟩
 exact⟨rfl,hb.below⟩
def wpair (g:Nat->Nat->Bool)(rt r j:Nat):List (Nat×Nat):=([(r,rt),(r,rt-1)].take j).filter fun p=>!g p.2 p.1
theorem wpair_two (g:Nat->Nat->Bool)(rt r:Nat):wpair g rt r 2=pairAt g rt r:=rfl
theorem wpair_yes (g:Nat->Nat->Bool)(rt r j:Nat)(hj:j<2)(h:g (rt-j) r=false):wpair g rt r (j+1)=wpair g rt r j++[(r,rt-j)]:=by
 unfold wpair
 match j,hj with
 | 0,_=>simp at h;simp [h]
 | 1,_=>simp only [List.take_succ_cons,List.take_zero,List.filter_cons,List.filter_nil,h];cases g rt r<;>rfl
theorem wpair_no (g:Nat->Nat->Bool)(rt r j:Nat)(hj:j<2)(h:g (rt-j) r=true):wpair g rt r (j+1)=wpair g rt r j:=by
 unfold wpair
 match j,hj with
 | 0,_=>simp at h;simp [h]
 | 1,_=>simp only [List.take_succ_cons,List.take_zero,List.filter_cons,List.filter_nil,h];cases g rt r<;>rfl
set_option maxHeartbeats 4000000 in
set_option maxRecDepth 8000 in
theorem way64 (w:World)(v:Nat)(hv:1<=v/\v<=40) :
  Calls Tryz.prog 64 #[.int .i64 (v:Int)] w fun e w'=>∃ A m c,e=.returned (.slice A m c)/\m=(way (17+4*v) (fpB v (ctrs v))).length/\w'.ownsRow w.heap.size 118 2 (.slice A m c) m (wayCells (way (17+4*v) (fpB v (ctrs v))))/\Below w.heap.size w w':=by
 have kd:=dim46 w v hv
 obtain⟨kk,hkk⟩:=(givenRows v hv).rounds
 have KG:=Aside0.mk (fun W=>F.spec_QRGiven.calls kk v _ W hkk)
 obtain⟨n,hn⟩:∃ n,17+4*v=n:=⟨_,rfl⟩
 rw [hn] at kd KG ⊢
 have hn2:n<=177:=by omega
 have hn1:21<=n:=by omega
 obtain⟨gp,hgp⟩:∃ gp,fpB v (ctrs v)=gp:=⟨_,rfl⟩
 rw [hgp] at KG ⊢
 clear hgp hkk hn hv
 go_enter Tryz.func64,Tryz.ntmps64
 go_wp2_with (first | (go_at_call 46;refine kd.mono ?_;rintro e0 w1 ⟨rfl,hb1⟩;have HB1:=Aside0.mk hb1;clear hb1) | (go_at_call 121;refine (KG.out _).mono ?_;rintro e0 w2 ⟨v0,rfl,hS,hb2⟩;obtain⟨gg,cg,q,cp,rfl,hcg,hbr⟩:=rows_open hS (by omega);have HBR:=Aside0.mk hbr;have HB2:=Aside0.mk (HB1.out.trans (hb2.mono HB1.out.size));clear hbr hb2 hS))
 clear kd
 have HW2:=Aside0.mk HB2.out.size
 go_loopw [5,6,7] (fun vo vu vr wr=>∃ (k right m cm:Nat) (A:Option Addr) (up:Bool) (rI:Int) (xs:List (Nat×Nat)),vo=.slice A m cm/\vu=.bool up/\vr=.int .i64 rI/\(right=0\/rI=(right:Int))/\-1<=rI/\rI<=(right:Int)/\right<=k/\right<n/\m+400*right<=80000/\Aside0 (xs++wayF n gp k right up=way n gp)/\Aside0 (m=xs.length)/\Aside0 (wr.ownsRow w2.heap.size 118 2 (.slice A m cm) m (wayCells xs))/\Aside0 (Below w2.heap.size w2 wr)) (fun _ _ vr _=>(intOf vr+1).toNat)
 case atStart=>exact⟨n,n-1,0,0,none,true,(n:Int)-1,[],rfl,rfl,rfl,by omega,by omega,by omega,by omega,by omega,by omega,⟨rfl⟩,⟨rfl⟩,⟨⟨rfl,.inl ⟨rfl,rfl⟩⟩⟩,⟨Below.refl _ _⟩⟩
 case round=>
  obtain⟨k,right,m,cm,A,up,rI,xs,rfl,rfl,rfl,hor,hr1,hr2,hrk,hrn,hmr,HX,HM,HO,HB⟩:=hrel
  by_cases hr0:right=0
  ·have hneg:¬ rI>0:=by omega
   have HE:=Aside0.mk (show xs=way n gp by
    have h1:=HX.out
    subst hr0
    cases k with
    | zero=>rw [wayF,List.append_nil] at h1;exact h1
    | succ k=>rw [wayF,if_pos rfl,List.append_nil] at h1;exact h1)
   clear hor hr1 hr2 hrk hr0 hmr hrn
   go_wp2
   go_ret
   refine⟨A,m,cm,rfl,by rw [HM.out,HE.out],?_,HB2.out.trans (HB.out.mono HW2.out)⟩
   rw [<- HE.out]
   exact own_mono HO.out HW2.out
  ·have hri:rI=(right:Int):=by omega
   subst hri
   obtain⟨k,rfl⟩:∃ k',k=k'+1:=⟨k-1,by omega⟩
   have hrp:(right:Int)>0:=by omega
   by_cases h6:right=6
   ·subst h6
    have HFX:=Aside0.mk (show fixR 6=5 by unfold fixR;rfl)
    have HX2:=Aside0.mk (show xs++(colPair n gp 5 up n++wayF n gp k (5-2) (!up))=way n gp by
     have h1:=HX.out
     rw [wayF,if_neg hr0,HFX.out] at h1
     exact h1)
    have HRP:=Aside0.mk (show 1<=5 by omega)
    clear hor hr1 hr2 HX hr0
    go_wp2
    clear hrp
    go_loopw [5,8] (fun vo vi wr=>∃ (i m' cm:Nat) (A:Option Addr),vi=.int .i64 (i:Int)/\vo=.slice A m' cm/\i<=n/\m'<=m+2*i/\Aside0 (m'=(xs++colPair n gp 5 up i).length)/\Aside0 (wr.ownsRow w2.heap.size 118 2 (.slice A m' cm) m' (wayCells (xs++colPair n gp 5 up i)))/\Aside0 (Below w2.heap.size w2 wr)) (fun _ vi _=>(n-intOf vi).toNat)
    case atStart=>exact⟨0,m,cm,A,rfl,rfl,by omega,by omega,⟨by rw [colPair,List.append_nil];exact HM.out⟩,⟨by rw [colPair,List.append_nil];exact HO.out⟩,HB⟩
    case round=>
     clear HM HO HB
     obtain⟨i,m1,cm,A,rfl,rfl,hi,hm1,HM,HO,HB⟩:=hrel
     by_cases hin:i<n
     ·obtain⟨r,hr⟩:∃ r,rowAt n up i=r:=⟨_,rfl⟩
      have hrn2:r<n:=by rw [<- hr];exact rowAt_lt n up i hin
      have hri2:(n:Int)-1-(i:Int)=(r:Int)\/up=false:=by
       rw [<- hr];unfold rowAt
       cases up with
       | false=>exact .inr rfl
       | true=>left;rw [if_pos rfl];omega
      have hri3:up=false->i=r:=fun h=>by rw [<- hr,h];rfl
      have HCN:=Aside0.mk (show xs++colPair n gp 5 up (i+1)=xs++colPair n gp 5 up i++wpair gp 5 r 2 by rw [colPair,hr,wpair_two,List.append_assoc])
      obtain⟨ys,hys⟩:∃ ys,xs++colPair n gp 5 up i=ys:=⟨_,rfl⟩
      rw [hys] at HM HO HCN
      have HM0:=Aside0.mk (show m1=(ys++wpair gp 5 r 0).length by unfold wpair;simpa using HM.out)
      have HO0:=Aside0.mk (show wr.ownsRow w2.heap.size 118 2 (.slice A m1 cm) m1 (wayCells (ys++wpair gp 5 r 0)) by
       have:ys++wpair gp 5 r 0=ys:=by unfold wpair;simp
       rw [this];exact HO.out)
      clear hr hys HM HO
      cases up with
      | true=>
       have hri:=hri2.resolve_right (by decide)
       clear hri2 hri3
       go_wp2
       go_loopw [5,10] (fun vo vc wr=>∃ (j m' cm:Nat) (A:Option Addr),j<=2/\vc=.int .i64 ((5:Int)-(j:Int))/\vo=.slice A m' cm/\m'<=m1+j/\Aside0 (m'=(ys++wpair gp 5 r j).length)/\Aside0 (wr.ownsRow w2.heap.size 118 2 (.slice A m' cm) m' (wayCells (ys++wpair gp 5 r j)))/\Aside0 (Below w2.heap.size w2 wr)) (fun _ vc _=>(intOf vc+2).toNat)
       case atStart=>exact⟨0,m1,cm,A,by omega,by go_num,rfl,by omega,HM0,HO0,HB⟩
       case round=>
        clear HM0 HO0 HB
        obtain⟨j,m2,cm,A,hj,rfl,rfl,hm2,HM,HO,HB⟩:=hrel
        by_cases hj2:j<2
        ·obtain⟨x,hx⟩:∃ x:Nat,5-j=x:=⟨_,rfl⟩
         have hxi:(5:Int)-(j:Int)=(x:Int):=by have:=HRP.out;omega
         have hxn:x<n:=by omega
         have hge:(5:Int)-(1:Int)<=(x:Int):=by omega
         obtain⟨R1,_,hcq,_,R2⟩:=(HBR.out.below HB.out (Nat.le_refl _)).row r hrn2
         have r2:=R2 x hxn
         obtain⟨qr,hqr⟩:∃ qr,q r=qr:=⟨_,rfl⟩
         rw [hqr] at R1 r2
         obtain⟨cr,hcr⟩:∃ cr,cp r=cr:=⟨_,rfl⟩
         rw [hcr] at R1
         have hpy:=wpair_yes gp 5 r j hj2
         have hpn:=wpair_no gp 5 r j hj2
         rw [hx] at hpy hpn
         obtain⟨b,hb⟩:∃ b,gp x r=b:=⟨_,rfl⟩
         rw [hb] at r2 hpy hpn
         rw [hxi]
         have HXI:=Aside0.mk hxi
         have hj3:(j:Int)<2:=by omega
         clear R2 hqr hcr hb hx hxi hcq
         cases b with
         | true=>
          have hpn2:=hpn rfl
          have HM2:=Aside0.mk (show m2=(ys++wpair gp 5 r (j+1)).length by rw [hpn2];exact HM.out)
          have HO2:=Aside0.mk (show wr.ownsRow w2.heap.size 118 2 (.slice A m2 cm) m2 (wayCells (ys++wpair gp 5 r (j+1))) by rw [hpn2];exact HO.out)
          clear hpy hpn hpn2
          go_wp2
          go_roundw
          case rel=>exact⟨j+1,m2,cm,A,by omega,by have:=HXI.out;go_num,rfl,by omega,HM2,HO2,HB⟩
          case measure=>simp [intOf]<;>omega
         | false=>
          have hpy2:=hpy rfl
          have HNX:=Aside0.mk (show ys++wpair gp 5 r (j+1)=(ys++wpair gp 5 r j)++[(r,x)] by rw [hpy2,List.append_assoc])
          have HML:=Aside0.mk (show m2+1=(ys++wpair gp 5 r (j+1)).length by rw [HNX.out,List.length_append,<- HM.out];rfl)
          clear hpy hpn hpy2
          go_wp2_with (first | ((with_reducible refine gate_builtin (b:=.append) (xs:=#[.tmp 49,.tmp 53]) rfl ?_);at_builtin;go_loud (refine print_append_cells (w0:=w2) w2.heap.size rfl (.tmp 49) (.tmp 53) 116 118 (.agg #[.int .i64 0,.int .i64 0]) 2 16 rfl Tryz.underlying116 info118 rfl (by decide) (by decide) (.slice A m2 cm) m2 (wayCells (ys++wpair gp 5 r j)) [.int .i64 (r:Int),.int .i64 (x:Int)] rfl rfl rfl (by simp [Value.oneCell']) HO.out HB.out HB.out.size ?aL ?_;(case aL=>omega);intro v6 w6 ho6 hb6 hg6 hat6;rw [<- wayCells_snoc _ (r,x),<- HNX.out] at ho6;obtain⟨A6,c6,hv6⟩:=own_slice ho6;subst hv6;have HO6:=Aside0.mk ho6;have HB6:=Aside0.mk hb6;clear ho6 hb6 hg6 hat6)))
          go_roundw
          case rel=>first | exact⟨j+1,m2+1,c6,A6,by omega,by have:=HXI.out;go_num,rfl,by omega,HML,HO6,HB6⟩ | ((repeat apply Exists.intro);exact⟨⟨j+1,m2+1,c6,A6,by omega,by have:=HXI.out;go_num,rfl,by omega,HML,HO6,HB6⟩,rfl⟩)
          case measure=>show ((x:Int)-1+2).toNat<((x:Int)+2).toNat;omega
        ·have:j=2:=by omega
         subst this
         go_wp2
         go_roundw
         case rel=>exact⟨i+1,m2,cm,A,by go_num,rfl,by omega,by omega,⟨by rw [HCN.out];exact HM.out⟩,⟨by rw [HCN.out];exact HO.out⟩,HB⟩
         case measure=>simp [intOf]<;>omega
      | false=>
       have hri:=hri3 rfl
       subst hri
       clear hri2 hri3
       go_wp2
       go_loopw [5,10] (fun vo vc wr=>∃ (j m' cm:Nat) (A:Option Addr),j<=2/\vc=.int .i64 ((5:Int)-(j:Int))/\vo=.slice A m' cm/\m'<=m1+j/\Aside0 (m'=(ys++wpair gp 5 i j).length)/\Aside0 (wr.ownsRow w2.heap.size 118 2 (.slice A m' cm) m' (wayCells (ys++wpair gp 5 i j)))/\Aside0 (Below w2.heap.size w2 wr)) (fun _ vc _=>(intOf vc+2).toNat)
       case atStart=>exact⟨0,m1,cm,A,by omega,by go_num,rfl,by omega,HM0,HO0,HB⟩
       case round=>
        clear HM0 HO0 HB
        obtain⟨j,m2,cm,A,hj,rfl,rfl,hm2,HM,HO,HB⟩:=hrel
        by_cases hj2:j<2
        ·obtain⟨x,hx⟩:∃ x:Nat,5-j=x:=⟨_,rfl⟩
         have hxi:(5:Int)-(j:Int)=(x:Int):=by have:=HRP.out;omega
         have hxn:x<n:=by omega
         have hge:(5:Int)-(1:Int)<=(x:Int):=by omega
         obtain⟨R1,_,hcq,_,R2⟩:=(HBR.out.below HB.out (Nat.le_refl _)).row i hin
         have r2:=R2 x hxn
         obtain⟨qr,hqr⟩:∃ qr,q i=qr:=⟨_,rfl⟩
         rw [hqr] at R1 r2
         obtain⟨cr,hcr⟩:∃ cr,cp i=cr:=⟨_,rfl⟩
         rw [hcr] at R1
         have hpy:=wpair_yes gp 5 i j hj2
         have hpn:=wpair_no gp 5 i j hj2
         rw [hx] at hpy hpn
         obtain⟨b,hb⟩:∃ b,gp x i=b:=⟨_,rfl⟩
         rw [hb] at r2 hpy hpn
         rw [hxi]
         have HXI:=Aside0.mk hxi
         have hj3:(j:Int)<2:=by omega
         clear R2 hqr hcr hb hx hxi hcq
         cases b with
         | true=>
          have hpn2:=hpn rfl
          have HM2:=Aside0.mk (show m2=(ys++wpair gp 5 i (j+1)).length by rw [hpn2];exact HM.out)
          have HO2:=Aside0.mk (show wr.ownsRow w2.heap.size 118 2 (.slice A m2 cm) m2 (wayCells (ys++wpair gp 5 i (j+1))) by rw [hpn2];exact HO.out)
          clear hpy hpn hpn2
          go_wp2
          go_roundw
          case rel=>exact⟨j+1,m2,cm,A,by omega,by have:=HXI.out;go_num,rfl,by omega,HM2,HO2,HB⟩
          case measure=>simp [intOf]<;>omega
         | false=>
          have hpy2:=hpy rfl
          have HNX:=Aside0.mk (show ys++wpair gp 5 i (j+1)=(ys++wpair gp 5 i j)++[(i,x)] by rw [hpy2,List.append_assoc])
          have HML:=Aside0.mk (show m2+1=(ys++wpair gp 5 i (j+1)).length by rw [HNX.out,List.length_append,<- HM.out];rfl)
          clear hpy hpn hpy2
          go_wp2_with (first | ((with_reducible refine gate_builtin (b:=.append) (xs:=#[.tmp 49,.tmp 53]) rfl ?_);at_builtin;go_loud (refine print_append_cells (w0:=w2) w2.heap.size rfl (.tmp 49) (.tmp 53) 116 118 (.agg #[.int .i64 0,.int .i64 0]) 2 16 rfl Tryz.underlying116 info118 rfl (by decide) (by decide) (.slice A m2 cm) m2 (wayCells (ys++wpair gp 5 i j)) [.int .i64 (i:Int),.int .i64 (x:Int)] rfl rfl rfl (by simp [Value.oneCell']) HO.out HB.out HB.out.size ?aL ?_;(case aL=>omega);intro v6 w6 ho6 hb6 hg6 hat6;rw [<- wayCells_snoc _ (i,x),<- HNX.out] at ho6;obtain⟨A6,c6,hv6⟩:=own_slice ho6;subst hv6;have HO6:=Aside0.mk ho6;have HB6:=Aside0.mk hb6;clear ho6 hb6 hg6 hat6)))
          go_roundw
          case rel=>first | exact⟨j+1,m2+1,c6,A6,by omega,by have:=HXI.out;go_num,rfl,by omega,HML,HO6,HB6⟩ | ((repeat apply Exists.intro);exact⟨⟨j+1,m2+1,c6,A6,by omega,by have:=HXI.out;go_num,rfl,by omega,HML,HO6,HB6⟩,rfl⟩)
          case measure=>show ((x:Int)-1+2).toNat<((x:Int)+2).toNat;omega
        ·have:j=2:=by omega
         subst this
         go_wp2
         go_roundw
         case rel=>exact⟨i+1,m2,cm,A,by go_num,rfl,by omega,by omega,⟨by rw [HCN.out];exact HM.out⟩,⟨by rw [HCN.out];exact HO.out⟩,HB⟩
         case measure=>simp [intOf]<;>omega
     ·have:i=n:=by omega
      subst this
      go_wp2
      have:=HRP.out
      go_roundw
      case rel=>exact⟨k,3,m1,cm,A,!up,3,_,rfl,rfl,rfl,by omega,by omega,by omega,by omega,by omega,by omega,⟨by rw [List.append_assoc];exact HX2.out⟩,HM,HO,HB⟩
      case measure=>simp [intOf]<;>omega
   ·have HFX:=Aside0.mk (show fixR right=right by unfold fixR;rw [if_neg h6])
    have HX2:=Aside0.mk (show xs++(colPair n gp right up n++wayF n gp k (right-2) (!up))=way n gp by
     have h1:=HX.out
     rw [wayF,if_neg hr0,HFX.out] at h1
     exact h1)
    have hd0:decide (0<right)=true:=decide_eq_true (by omega)
    have hd6:((right:Int)==6)=false:=by rw [beq_eq_false_iff_ne];omega
    clear h6 hrp
    have HRP:=Aside0.mk (show 1<=right by omega)
    clear hor hr1 hr2 HX hr0
    go_wp2
    clear hd0 hd6
    go_loopw [5,8] (fun vo vi wr=>∃ (i m' cm:Nat) (A:Option Addr),vi=.int .i64 (i:Int)/\vo=.slice A m' cm/\i<=n/\m'<=m+2*i/\Aside0 (m'=(xs++colPair n gp right up i).length)/\Aside0 (wr.ownsRow w2.heap.size 118 2 (.slice A m' cm) m' (wayCells (xs++colPair n gp right up i)))/\Aside0 (Below w2.heap.size w2 wr)) (fun _ vi _=>(n-intOf vi).toNat)
    case atStart=>exact⟨0,m,cm,A,rfl,rfl,by omega,by omega,⟨by rw [colPair,List.append_nil];exact HM.out⟩,⟨by rw [colPair,List.append_nil];exact HO.out⟩,HB⟩
    case round=>
     clear HM HO HB
     obtain⟨i,m1,cm,A,rfl,rfl,hi,hm1,HM,HO,HB⟩:=hrel
     by_cases hin:i<n
     ·obtain⟨r,hr⟩:∃ r,rowAt n up i=r:=⟨_,rfl⟩
      have hrn2:r<n:=by rw [<- hr];exact rowAt_lt n up i hin
      have hri2:(n:Int)-1-(i:Int)=(r:Int)\/up=false:=by
       rw [<- hr];unfold rowAt
       cases up with
       | false=>exact .inr rfl
       | true=>left;rw [if_pos rfl];omega
      have hri3:up=false->i=r:=fun h=>by rw [<- hr,h];rfl
      have HCN:=Aside0.mk (show xs++colPair n gp right up (i+1)=xs++colPair n gp right up i++wpair gp right r 2 by rw [colPair,hr,wpair_two,List.append_assoc])
      obtain⟨ys,hys⟩:∃ ys,xs++colPair n gp right up i=ys:=⟨_,rfl⟩
      rw [hys] at HM HO HCN
      have HM0:=Aside0.mk (show m1=(ys++wpair gp right r 0).length by unfold wpair;simpa using HM.out)
      have HO0:=Aside0.mk (show wr.ownsRow w2.heap.size 118 2 (.slice A m1 cm) m1 (wayCells (ys++wpair gp right r 0)) by
       have:ys++wpair gp right r 0=ys:=by unfold wpair;simp
       rw [this];exact HO.out)
      clear hr hys HM HO
      cases up with
      | true=>
       have hri:=hri2.resolve_right (by decide)
       clear hri2 hri3
       go_wp2
       go_loopw [5,10] (fun vo vc wr=>∃ (j m' cm:Nat) (A:Option Addr),j<=2/\vc=.int .i64 ((right:Int)-(j:Int))/\vo=.slice A m' cm/\m'<=m1+j/\Aside0 (m'=(ys++wpair gp right r j).length)/\Aside0 (wr.ownsRow w2.heap.size 118 2 (.slice A m' cm) m' (wayCells (ys++wpair gp right r j)))/\Aside0 (Below w2.heap.size w2 wr)) (fun _ vc _=>(intOf vc+2).toNat)
       case atStart=>exact⟨0,m1,cm,A,by omega,by go_num,rfl,by omega,HM0,HO0,HB⟩
       case round=>
        clear HM0 HO0 HB
        obtain⟨j,m2,cm,A,hj,rfl,rfl,hm2,HM,HO,HB⟩:=hrel
        by_cases hj2:j<2
        ·obtain⟨x,hx⟩:∃ x:Nat,right-j=x:=⟨_,rfl⟩
         have hxi:(right:Int)-(j:Int)=(x:Int):=by have:=HRP.out;omega
         have hxn:x<n:=by omega
         have hge:(right:Int)-(1:Int)<=(x:Int):=by omega
         obtain⟨R1,_,hcq,_,R2⟩:=(HBR.out.below HB.out (Nat.le_refl _)).row r hrn2
         have r2:=R2 x hxn
         obtain⟨qr,hqr⟩:∃ qr,q r=qr:=⟨_,rfl⟩
         rw [hqr] at R1 r2
         obtain⟨cr,hcr⟩:∃ cr,cp r=cr:=⟨_,rfl⟩
         rw [hcr] at R1
         have hpy:=wpair_yes gp right r j hj2
         have hpn:=wpair_no gp right r j hj2
         rw [hx] at hpy hpn
         obtain⟨b,hb⟩:∃ b,gp x r=b:=⟨_,rfl⟩
         rw [hb] at r2 hpy hpn
         rw [hxi]
         have HXI:=Aside0.mk hxi
         have hj3:(j:Int)<2:=by omega
         clear R2 hqr hcr hb hx hxi hcq
         cases b with
         | true=>
          have hpn2:=hpn rfl
          have HM2:=Aside0.mk (show m2=(ys++wpair gp right r (j+1)).length by rw [hpn2];exact HM.out)
          have HO2:=Aside0.mk (show wr.ownsRow w2.heap.size 118 2 (.slice A m2 cm) m2 (wayCells (ys++wpair gp right r (j+1))) by rw [hpn2];exact HO.out)
          clear hpy hpn hpn2
          go_wp2
          go_roundw
          case rel=>exact⟨j+1,m2,cm,A,by omega,by have:=HXI.out;go_num,rfl,by omega,HM2,HO2,HB⟩
          case measure=>simp [intOf]<;>omega
         | false=>
          have hpy2:=hpy rfl
          have HNX:=Aside0.mk (show ys++wpair gp right r (j+1)=(ys++wpair gp right r j)++[(r,x)] by rw [hpy2,List.append_assoc])
          have HML:=Aside0.mk (show m2+1=(ys++wpair gp right r (j+1)).length by rw [HNX.out,List.length_append,<- HM.out];rfl)
          clear hpy hpn hpy2
          go_wp2_with (first | ((with_reducible refine gate_builtin (b:=.append) (xs:=#[.tmp 49,.tmp 53]) rfl ?_);at_builtin;go_loud (refine print_append_cells (w0:=w2) w2.heap.size rfl (.tmp 49) (.tmp 53) 116 118 (.agg #[.int .i64 0,.int .i64 0]) 2 16 rfl Tryz.underlying116 info118 rfl (by decide) (by decide) (.slice A m2 cm) m2 (wayCells (ys++wpair gp right r j)) [.int .i64 (r:Int),.int .i64 (x:Int)] rfl rfl rfl (by simp [Value.oneCell']) HO.out HB.out HB.out.size ?aL ?_;(case aL=>omega);intro v6 w6 ho6 hb6 hg6 hat6;rw [<- wayCells_snoc _ (r,x),<- HNX.out] at ho6;obtain⟨A6,c6,hv6⟩:=own_slice ho6;subst hv6;have HO6:=Aside0.mk ho6;have HB6:=Aside0.mk hb6;clear ho6 hb6 hg6 hat6)))
          go_roundw
          case rel=>first | exact⟨j+1,m2+1,c6,A6,by omega,by have:=HXI.out;go_num,rfl,by omega,HML,HO6,HB6⟩ | ((repeat apply Exists.intro);exact⟨⟨j+1,m2+1,c6,A6,by omega,by have:=HXI.out;go_num,rfl,by omega,HML,HO6,HB6⟩,rfl⟩)
          case measure=>show ((x:Int)-1+2).toNat<((x:Int)+2).toNat;omega
        ·have:j=2:=by omega
         subst this
         go_wp2
         go_roundw
         case rel=>exact⟨i+1,m2,cm,A,by go_num,rfl,by omega,by omega,⟨by rw [HCN.out];exact HM.out⟩,⟨by rw [HCN.out];exact HO.out⟩,HB⟩
         case measure=>simp [intOf]<;>omega
      | false=>
       have hri:=hri3 rfl
       subst hri
       clear hri2 hri3
       go_wp2
       go_loopw [5,10] (fun vo vc wr=>∃ (j m' cm:Nat) (A:Option Addr),j<=2/\vc=.int .i64 ((right:Int)-(j:Int))/\vo=.slice A m' cm/\m'<=m1+j/\Aside0 (m'=(ys++wpair gp right i j).length)/\Aside0 (wr.ownsRow w2.heap.size 118 2 (.slice A m' cm) m' (wayCells (ys++wpair gp right i j)))/\Aside0 (Below w2.heap.size w2 wr)) (fun _ vc _=>(intOf vc+2).toNat)
       case atStart=>exact⟨0,m1,cm,A,by omega,by go_num,rfl,by omega,HM0,HO0,HB⟩
       case round=>
        clear HM0 HO0 HB
        obtain⟨j,m2,cm,A,hj,rfl,rfl,hm2,HM,HO,HB⟩:=hrel
        by_cases hj2:j<2
        ·obtain⟨x,hx⟩:∃ x:Nat,right-j=x:=⟨_,rfl⟩
         have hxi:(right:Int)-(j:Int)=(x:Int):=by have:=HRP.out;omega
         have hxn:x<n:=by omega
         have hge:(right:Int)-(1:Int)<=(x:Int):=by omega
         obtain⟨R1,_,hcq,_,R2⟩:=(HBR.out.below HB.out (Nat.le_refl _)).row i hin
         have r2:=R2 x hxn
         obtain⟨qr,hqr⟩:∃ qr,q i=qr:=⟨_,rfl⟩
         rw [hqr] at R1 r2
         obtain⟨cr,hcr⟩:∃ cr,cp i=cr:=⟨_,rfl⟩
         rw [hcr] at R1
         have hpy:=wpair_yes gp right i j hj2
         have hpn:=wpair_no gp right i j hj2
         rw [hx] at hpy hpn
         obtain⟨b,hb⟩:∃ b,gp x i=b:=⟨_,rfl⟩
         rw [hb] at r2 hpy hpn
         rw [hxi]
         have HXI:=Aside0.mk hxi
         have hj3:(j:Int)<2:=by omega
         clear R2 hqr hcr hb hx hxi hcq
         cases b with
         | true=>
          have hpn2:=hpn rfl
          have HM2:=Aside0.mk (show m2=(ys++wpair gp right i (j+1)).length by rw [hpn2];exact HM.out)
          have HO2:=Aside0.mk (show wr.ownsRow w2.heap.size 118 2 (.slice A m2 cm) m2 (wayCells (ys++wpair gp right i (j+1))) by rw [hpn2];exact HO.out)
          clear hpy hpn hpn2
          go_wp2
          go_roundw
          case rel=>exact⟨j+1,m2,cm,A,by omega,by have:=HXI.out;go_num,rfl,by omega,HM2,HO2,HB⟩
          case measure=>simp [intOf]<;>omega
         | false=>
          have hpy2:=hpy rfl
          have HNX:=Aside0.mk (show ys++wpair gp right i (j+1)=(ys++wpair gp right i j)++[(i,x)] by rw [hpy2,List.append_assoc])
          have HML:=Aside0.mk (show m2+1=(ys++wpair gp right i (j+1)).length by rw [HNX.out,List.length_append,<- HM.out];rfl)
          clear hpy hpn hpy2
          go_wp2_with (first | ((with_reducible refine gate_builtin (b:=.append) (xs:=#[.tmp 49,.tmp 53]) rfl ?_);at_builtin;go_loud (refine print_append_cells (w0:=w2) w2.heap.size rfl (.tmp 49) (.tmp 53) 116 118 (.agg #[.int .i64 0,.int .i64 0]) 2 16 rfl Tryz.underlying116 info118 rfl (by decide) (by decide) (.slice A m2 cm) m2 (wayCells (ys++wpair gp right i j)) [.int .i64 (i:Int),.int .i64 (x:Int)] rfl rfl rfl (by simp [Value.oneCell']) HO.out HB.out HB.out.size ?aL ?_;(case aL=>omega);intro v6 w6 ho6 hb6 hg6 hat6;rw [<- wayCells_snoc _ (i,x),<- HNX.out] at ho6;obtain⟨A6,c6,hv6⟩:=own_slice ho6;subst hv6;have HO6:=Aside0.mk ho6;have HB6:=Aside0.mk hb6;clear ho6 hb6 hg6 hat6)))
          go_roundw
          case rel=>first | exact⟨j+1,m2+1,c6,A6,by omega,by have:=HXI.out;go_num,rfl,by omega,HML,HO6,HB6⟩ | ((repeat apply Exists.intro);exact⟨⟨j+1,m2+1,c6,A6,by omega,by have:=HXI.out;go_num,rfl,by omega,HML,HO6,HB6⟩,rfl⟩)
          case measure=>show ((x:Int)-1+2).toNat<((x:Int)+2).toNat;omega
        ·have:j=2:=by omega
         subst this
         go_wp2
         go_roundw
         case rel=>exact⟨i+1,m2,cm,A,by go_num,rfl,by omega,by omega,⟨by rw [HCN.out];exact HM.out⟩,⟨by rw [HCN.out];exact HO.out⟩,HB⟩
         case measure=>simp [intOf]<;>omega
     ·have:i=n:=by omega
      subst this
      go_wp2
      have:=HRP.out
      go_roundw
      case rel=>exact⟨k,right-2,m1,cm,A,!up,(right:Int)-2,_,rfl,rfl,rfl,by omega,by omega,by omega,by omega,by omega,by omega,⟨by rw [List.append_assoc];exact HX2.out⟩,HM,HO,HB⟩
      case measure=>simp [intOf]<;>omega
end Go.Proofs.YtgccjgpdjkhpdaaGreat.B
