import Derived.Test.YtgccjgpdjkhpdaaGreatVBack25
import Derived.Test.YtgccjgpdjkhpdaaGreatVBack35
import Derived.Test.YtgccjgpdjkhpdaaGreatVBack36
import Derived.Test.YtgccjgpdjkhpdaaGreatVBack37
/-! Own texts of this claim, part 32. -/
namespace Go.Proofs.YtgccjgpdjkhpdaaGreat.F
open Go.RowKit Go.Proofs.YtgccjgpdjkhpdaaGreatW.PrintWords Go.Proofs.YtgccjgpdjkhpdaaGreatW.PrintLast Go.Proofs.YtgccjgpdjkhpdaaGreatW.PrintMore
attribute [local go_sem] max2_int min2_int max_two min_two max_three min_three max_four min_four
set_option linter.unusedVariables false
set_option linter.unusedSimpArgs false
def laws_qrLevel.f (a0:Int):Option (Int):=some (Int.tmod (wrap64 (a0)) 4)
set_option maxHeartbeats 8000000 in
set_option maxRecDepth 100000 in
theorem laws_qrLevel.calls (a0:Int)(r:Int)(w:World)(h:laws_qrLevel.f a0=some r) :
  Calls Tryz.prog 18 #[.int .u8 a0] w fun e w'=>e=.returned (.int .i64 r)/\Drawn0 w w':=by
 have H:(some (Int.tmod (wrap64 (a0)) 4))=some r:=h
 clear h
 obtain rfl:=Option.some.inj H
 go_enter Tryz.func18,Tryz.ntmps18
 go_wp2
 go_ret
 exact⟨by first | rfl | (simp;done) | (simp [*];done),by repeat (first | exact Drawn0.refl _ | apply Drawn0.step)⟩
def laws_qrMask.f (a0:Int):Option (Int):=some (Int.tmod (wrap64 (a0)) 8)
set_option maxHeartbeats 8000000 in
set_option maxRecDepth 100000 in
theorem laws_qrMask.calls (a0:Int)(r:Int)(w:World)(h:laws_qrMask.f a0=some r) :
  Calls Tryz.prog 20 #[.int .u8 a0] w fun e w'=>e=.returned (.int .i64 r)/\Drawn0 w w':=by
 have H:(some (Int.tmod (wrap64 (a0)) 8))=some r:=h
 clear h
 obtain rfl:=Option.some.inj H
 go_enter Tryz.func20,Tryz.ntmps20
 go_wp2
 go_ret
 exact⟨by first | rfl | (simp;done) | (simp [*];done),by repeat (first | exact Drawn0.refl _ | apply Drawn0.step)⟩
end Go.Proofs.YtgccjgpdjkhpdaaGreat.F
namespace Go.Proofs.YtgccjgpdjkhpdaaGreat.B
open Go.RowKit Go.Proofs.YtgccjgpdjkhpdaaGreatW.PrintWords Go.Proofs.YtgccjgpdjkhpdaaGreatW.PrintLast Go.Proofs.YtgccjgpdjkhpdaaGreatW.PrintMore
set_option linter.unusedVariables false
set_option linter.unusedSimpArgs false
theorem fits9_some (a:Int)(t:List Int):∃ b,F.laws_zzFits9.f a t=some b:=by
 unfold F.laws_zzFits9.f
 split<;>exact⟨_,rfl⟩
theorem fits8_some (l:List F.S98):∃ b,Ev (fun k=>F.laws_zzFits8.f k l) b:=by
 by_cases hl:(l.length:Int)>2147483647
 ·exact⟨false,Ev.congr (fun k=>by rw [F.laws_zzFits8.f,if_pos hl]) (Ev.now _)⟩
 ·have H:∀ (d i:Nat),i+d=l.length->∃ b,Ev (fun k=>F.laws_zzFits8.l0 k l (l.length:Int) (i:Int)) b:=by
   intro d
   induction d with
   | zero=>
    intro i hi
    refine⟨true,Ev.step (f:=fun _=>some true) (fun k=>?_) (Ev.now _)⟩
    rw [F.laws_zzFits8.l0,if_neg (by omega)]
   | succ d ih=>
    intro i hi
    obtain⟨b,hb⟩:=fits9_some ((F.rd_T98 l (i:Int)).f0) ((F.rd_T98 l (i:Int)).f1)
    cases b with
    | false=>
     refine⟨false,Ev.step (f:=fun _=>some false) (fun k=>?_) (Ev.now _)⟩
     rw [F.laws_zzFits8.l0,if_pos (by omega),if_pos (by omega),if_pos (by omega),hb]
     rfl
    | true=>
     obtain⟨r,hr⟩:=ih (i+1) (by omega)
     refine⟨r,Ev.step (fun k=>?_) hr⟩
     rw [F.laws_zzFits8.l0,if_pos (by omega),if_pos (by omega),if_pos (by omega),hb,Option.bind_some,if_pos rfl,w64n i (by omega)]
  obtain⟨b,hb⟩:=H l.length 0 (by omega)
  exact⟨b,Ev.congr (fun k=>by rw [F.laws_zzFits8.f,if_neg hl];rfl) hb⟩
theorem level_some (a:Nat)(h:a<256):F.laws_qrLevel.f (a:Int)=some ((a%4:Nat):Int):=by
 unfold F.laws_qrLevel.f
 have e1:wrap64 (a:Int)=(a:Int):=by unfold wrap64;omega
 rw [e1,Int.tmod_eq_emod_of_nonneg (by omega)]
 rfl
theorem mask_some (a:Nat)(h:a<256):F.laws_qrMask.f (a:Int)=some ((a%8:Nat):Int):=by
 unfold F.laws_qrMask.f
 have e1:wrap64 (a:Int)=(a:Int):=by unfold wrap64;omega
 rw [e1,Int.tmod_eq_emod_of_nonneg (by omega)]
 rfl
theorem tbyte_in (md x:Int)(hx:0<=x/\x<=255):32<=tbyte md x/\tbyte md x<=126:=by
 unfold tbyte
 split
 ·omega
 ·split
  ·have:=alCh_range ⟨(x%45).toNat,by omega⟩
   simp only at this
   omega
  ·omega
theorem tseg_ok (long:Nat)(s:F.S98)(v:Nat)(hs:SegIn s)(hl:long<=200):SegOK (tseg long s) v/\(tseg long s).f1.all isAsc=true:=by
 have hmem:∀ y∈(tseg long s).f1,∃ x,(0<=x/\x<=255)/\y=tbyte (tmode s.f0) x:=by
  intro y hy
  obtain⟨x,hx,rfl⟩:=List.mem_map.1 hy
  exact⟨x,hs.2 x (List.mem_of_mem_take hx),rfl⟩
 have hlen:(tseg long s).f1.length<=200:=by
  unfold tseg
  rw [List.length_map,List.length_take]
  omega
 refine⟨⟨tmode_cases _,?_,?_,?_,?_,?_⟩,?_⟩
 ·intro hm y hy
  obtain⟨x,hx,rfl⟩:=hmem y hy
  have hm:tmode s.f0=1:=hm
  unfold tbyte isDig
  rw [if_pos hm]
  omega
 ·intro hm y hy
  obtain⟨x,hx,rfl⟩:=hmem y hy
  have hm:tmode s.f0=2:=hm
  unfold tbyte
  rw [if_neg (by omega),if_pos hm]
  have h1:(x%45).toNat<45:=by omega
  rw [alNum_look ⟨_,h1⟩]
  exact h1
 ·intro y hy
  obtain⟨x,hx,rfl⟩:=hmem y hy
  have:=tbyte_in (tmode s.f0) x hx
  omega
 ·have h8:8<=cntBits (tseg long s).f0.toNat v:=by
   have:(tseg long s).f0=1\/(tseg long s).f0=2\/(tseg long s).f0=4:=tmode_cases _
   unfold cntBits
   rcases this with e | e | e<;>rw [e]<;>simp<;>(repeat' split)<;>omega
  have:=Nat.pow_le_pow_right (show 0<2 by decide) h8
  omega
 ·omega
 ·rw [List.all_eq_true]
  intro y hy
  obtain⟨x,hx,rfl⟩:=hmem y hy
  have:=tbyte_in (tmode s.f0) x hx
  unfold isAsc
  exact decide_eq_true this
def symData (v l:Nat)(ws:List Nat):List Nat:=dataOf (lvC v l) (lvD v l) (lvC2 v l) (lvE v l) ws (lvC v l+lvC2 v l)
structure SymOK (v dn:Nat)(f:Nat->Nat->Bool)(st:PS):Prop where
 hv:1<=v/\v<=40
 ver:VerOK f v
 dn32:dn<32
 fmt:fmtGo (nacc (fat1 f) 15) (nacc (fat2 f (17+4*v)) 15) fmtTab (2147483647,0)=some dn
 clean:Clean (lvC v (dn/8)) (lvD v (dn/8)) (lvC2 v (dn/8)) (lvE v (dn/8)) (wordsOf v (dn%8) f)
 says:Rd (symData v (dn/8) (wordsOf v (dn%8) f)) v ⟨0,[],[],false,-1,-1⟩ (some st)
theorem symData_len (v l:Nat)(ws:List Nat)(hv:1<=v/\v<=40)(hl:l<4):(symData v l ws).length<=10000:=by
 unfold symData
 rw [dataOf_len]
 have L:=lay_at v l hv hl
 have h1:=L.tot
 have h2:=(tot_row v hv).2
 have h3:befD (lvC v l) (lvD v l) (lvC v l+lvC2 v l)=lvD v l*(lvC v l+lvC2 v l)+lvC2 v l:=by unfold befD;omega
 omega
theorem symData_lt (v l:Nat)(ws:List Nat)(hC:Clean (lvC v l) (lvD v l) (lvC2 v l) (lvE v l) ws):AllLt 8 (symData v l ws):=by
 intro x hx
 unfold symData dataOf at hx
 obtain⟨j,hj,hxj⟩:=List.mem_flatMap.1 hx
 exact hC.small j (List.mem_range.1 hj) x (List.mem_of_mem_take hxj)
theorem said149 (w:World)(dd rs gf p g b v dn:Nat)(f:Nat->Nat->Bool)(hint:Value)(st:PS)(S:SymOK v dn f st)(hD:DecAt w dd rs gf)(hP:Parser w p g v (.pointer none))(G:Grid w g b (17+4*v) (17+4*v) f)(hgp:g≠p)(hbp:b≠p) :
  Calls Tryz.prog 149 #[.pointer (some ⟨dd,0,none⟩),.pointer (some ⟨p,0,none⟩),hint] w fun e w'=>∃ r gt,e=.returned (.tuple #[.pointer (some ⟨r,0,none⟩),.nilIface])/\w.heap.size<=r/\ResIs w' r gt (dn/8) (symData v (dn/8) (wordsOf v (dn%8) f)) st/\Upd2 w w' p b:=by
 have hl4:dn/8<4:=by have:=S.dn32;omega
 have hsl:=symData_len v (dn/8) (wordsOf v (dn%8) f) S.hv hl4
 refine decodeTo w dd rs gf p g b v dn (dn/8) f hint _ _ hD hP S.dn32 S.fmt G S.hv S.ver hgp hbp rfl hl4 rfl S.clean ?_
 intro W gt pv hU hV hu hgt
 refine (parseWalk W gt _ pv (dn/8) v (symData v (dn/8) (wordsOf v (dn%8) f)) hint (some st) hU (by unfold symData;rw [dataOf_len]) hV S.hv hl4 (symData_lt _ _ _ S.clean) (by omega) S.says).mono ?_
 intro e w' hd
 obtain⟨r,rfl,h1,h2,h3⟩:=ParseDone.res hd hU (by rw [dataOf_len]) (show (symData v (dn/8) (wordsOf v (dn%8) f)).length<=100000 by omega) S.says
 exact⟨_,_,rfl,r,gt,rfl,Nat.le_trans hu.size h1,h2,hu.trans_below h3⟩
theorem said126 (w:World)(dd rs gf g b v dn:Nat)(f:Nat->Nat->Bool)(hint:Value)(st:PS)(S:SymOK v dn f st)(hD:DecAt w dd rs gf)(G:Grid w g b (17+4*v) (17+4*v) f) :
  Calls Tryz.prog 126 #[.pointer (some ⟨dd,0,none⟩),.pointer (some ⟨g,0,none⟩),hint] w fun e w'=>∃ r gt,e=.returned (.tuple #[.pointer (some ⟨r,0,none⟩),.nilIface])/\w.heap.size<=r/\ResIs w' r gt (dn/8) (symData v (dn/8) (wordsOf v (dn%8) f)) st/\Upd w w' b:=by
 have hv:=S.hv
 have kp:=newParser_ok w g b (17+4*v) (17+4*v) f G (by omega) (by omega) (by omega)
 have hgl:=G.lt
 have K:=Aside0.mk (fun hint=>said149 (w.alloc (.cells (parserCells g) 144)) dd rs gf w.heap.size g b v dn f hint st S (hD.below (below_alloc (Below.refl _ _) _) (Nat.le_refl _)) ⟨_,Blk.new _ _ _,.inl rfl⟩ (G.below (below_alloc (Below.refl _ _) _) hgl.1 hgl.2) (by omega) (by omega))
 obtain⟨D,hDD⟩:∃ D,symData v (dn/8) (wordsOf v (dn%8) f)=D:=⟨_,rfl⟩
 rw [hDD] at K ⊢
 obtain⟨l,hl⟩:∃ l,dn/8=l:=⟨_,rfl⟩
 rw [hl] at K ⊢
 clear S hD G hDD hl hv
 go_enter Tryz.func126,Tryz.ntmps126
 go_wp2_with (first | (go_at_call 82;refine kp.mono ?_;rintro e w1 ⟨rfl,rfl⟩) | (go_at_call 149;refine (K.out _).mono ?_;rintro e w2 ⟨r,gt,rfl,h1,h2,h3⟩;have H2:=Aside0.mk h2;have H3:=Aside0.mk h3;clear h2 h3))
 go_ret2
 have h3:=H3.out
 refine⟨r,gt,rfl,by simp at h1;omega,H2.out,⟨h3.os,h3.tape,h3.output,by have:=h3.size;simp at this;omega,fun k hk hkb=>?_⟩⟩
 rw [h3.block k (by simp;omega) (by omega) hkb]
 exact Below.heap_alloc w _ k hk
theorem said80 (w:World)(dd rs gf v dn:Nat)(A:Option Addr)(c:Nat)(rows:List (List Bool))(hint:Value)(st:PS)(S:SymOK v dn (cellOf rows) st)(hD:DecAt w dd rs gf)(hr:BRows w A rows)(hc:rows.length<=c)(hs:Square rows (17+4*v)) :
  Calls Tryz.prog 80 #[.pointer (some ⟨dd,0,none⟩),.slice A (17+4*v) c,hint] w fun e w'=>∃ r gt,e=.returned (.tuple #[.pointer (some ⟨r,0,none⟩),.nilIface])/\w.heap.size<=r/\ResIs w' r gt (dn/8) (symData v (dn/8) (wordsOf v (dn%8) (cellOf rows))) st/\Below w.heap.size w w':=by
 have hv:=S.hv
 obtain⟨n,hn⟩:∃ n,17+4*v=n:=⟨_,rfl⟩
 have kp:=parseMap w A c rows n n hr hc (by rw [hs.len,hn]) (by omega) (by omega) (by rw [hs.head,hn]) (by omega) (by omega) (by rw [<- hn];exact hs.row)
 have HD:=Aside0.mk hD
 have K:=Aside0.mk (fun (W:World) (g b:Nat) (h:DecAt W dd rs gf) (G:Grid W g b n n (cellOf rows))=>said126 W dd rs gf g b v dn (cellOf rows) hint st S h (by rw [hn];exact G))
 rw [hn]
 obtain⟨D,hDD⟩:∃ D,symData v (dn/8) (wordsOf v (dn%8) (cellOf rows))=D:=⟨_,rfl⟩
 rw [hDD] at K ⊢
 obtain⟨l,hl⟩:∃ l,dn/8=l:=⟨_,rfl⟩
 rw [hl] at K ⊢
 clear S hD hr hc hs hv hn hDD hl
 go_enter Tryz.func80,Tryz.ntmps80
 go_wp2_with (first | (go_at_call 125;refine kp.mono ?_;rintro e w1 ⟨rfl,hG,hb1⟩;have HG:=Aside0.mk hG;have HB1:=Aside0.mk hb1;have HD1:=Aside0.mk (HD.out.below hb1 (Nat.le_refl _));clear hG hb1) | (go_at_call 126;refine (K.out _ _ _ HD1.out HG.out).mono ?_;rintro e w2 ⟨r,gt,rfl,h1,h2,h3⟩;have H2:=Aside0.mk h2;have H3:=Aside0.mk h3;clear h2 h3))
 go_ret2
 exact⟨r,gt,rfl,Nat.le_trans HB1.out.size h1,H2.out,H3.out.below HB1.out (Nat.le_refl _) HB1.out.size⟩
theorem said37 (w:World)(dd rs gf v dn:Nat)(A:Option Addr)(c:Nat)(rows:List (List Bool))(st:PS)(S:SymOK v dn (cellOf rows) st)(hD:DecAt w dd rs gf)(hr:BRows w A rows)(hc:rows.length<=c)(hs:Square rows (17+4*v)) :
  Calls Tryz.prog 37 #[.pointer (some ⟨dd,0,none⟩),.slice A (17+4*v) c] w fun e w'=>∃ r gt,e=.returned (.tuple #[.pointer (some ⟨r,0,none⟩),.nilIface])/\w.heap.size<=r/\ResIs w' r gt (dn/8) (symData v (dn/8) (wordsOf v (dn%8) (cellOf rows))) st/\Below w.heap.size w w':=by
 have k:=said80 w dd rs gf v dn A c rows (.map none) st S hD hr hc hs
 obtain⟨D,hDD⟩:∃ D,symData v (dn/8) (wordsOf v (dn%8) (cellOf rows))=D:=⟨_,rfl⟩
 rw [hDD] at k ⊢
 obtain⟨l,hl⟩:∃ l,dn/8=l:=⟨_,rfl⟩
 rw [hl] at k ⊢
 clear S hD hr hc hs hDD hl
 go_enter Tryz.func37,Tryz.ntmps37
 go_wp2_with (go_at_call 80;refine k.mono ?_;rintro e w2 ⟨r,gt,rfl,h1,h2,h3⟩;have H2:=Aside0.mk h2;have H3:=Aside0.mk h3;clear h2 h3)
 go_ret2
 exact⟨r,gt,rfl,h1,H2.out,H3.out⟩
set_option maxHeartbeats 2000000 in
set_option maxRecDepth 100000 in
theorem said12 (w:World)(v dn:Nat)(A:Option Addr)(c:Nat)(rows:List (List Bool))(st:PS)(S:SymOK v dn (cellOf rows) st)(hr:BRows w A rows)(hc:rows.length<=c)(hs:Square rows (17+4*v)) :
  Calls Tryz.prog 12 #[.slice A (17+4*v) c] w fun e w'=>∃ x,e=.returned (.tuple #[x,.bool true])/\DecIs w' w.heap.size (dn/8) (symData v (dn/8) (wordsOf v (dn%8) (cellOf rows))) st x/\Below w.heap.size w w':=by
 have hl4:dn/8<4:=by have:=S.dn32;omega
 have hDl:(symData v (dn/8) (wordsOf v (dn%8) (cellOf rows))).length<=100000:=Nat.le_trans (symData_len v (dn/8) _ S.hv hl4) (by decide)
 obtain⟨w0,hw0⟩:∃ w0,w0=w.alloc (.cells #[.string ⟨#[]⟩,.slice none 0 0,.slice none 0 0,.string ⟨#[]⟩,.int .i64 0,.int .i64 0,.int .i64 0,.int .i64 0] 29):=⟨_,rfl⟩
 have HB0:=Aside0.mk (show Below w.heap.size w w0 by rw [hw0];exact below_alloc (Below.refl _ _) _)
 have HD0:=Aside0.mk (show Blk w0 w.heap.size 29 #[.string ⟨#[]⟩,.slice none 0 0,.slice none 0 0,.string ⟨#[]⟩,.int .i64 0,.int .i64 0,.int .i64 0,.int .i64 0] by rw [hw0];exact Blk.new _ _ _)
 have HZ0:=Aside0.mk (show w0.heap.size=w.heap.size+1 by rw [hw0];simp)
 have HW:=Aside0.mk hw0
 have HR0:=Aside0.mk (Kd.C_below hr HB0.out)
 have K:=Aside0.mk (fun (W:World) (dd rs gf:Nat) (h:DecAt W dd rs gf) (hb:BRows W A rows)=>said37 W dd rs gf v dn A c rows st S h hb hc hs)
 obtain⟨D,hDD⟩:∃ D,symData v (dn/8) (wordsOf v (dn%8) (cellOf rows))=D:=⟨_,rfl⟩
 rw [hDD] at K hDl ⊢
 obtain⟨l,hl⟩:∃ l,dn/8=l:=⟨_,rfl⟩
 rw [hl] at K ⊢
 obtain⟨n,hn⟩:∃ n,17+4*v=n:=⟨_,rfl⟩
 rw [hn] at K ⊢
 have HDL:=Aside0.mk hDl
 clear S hr hc hs hDD hl hn hl4 hw0 hDl
 go_enter Tryz.func12,Tryz.ntmps12
 go_wp2_with fail
 rw [<- HW.out]
 refine (newDec w0).mono ?_
 rintro e w1 ⟨d,rs,gf,rfl,_,_,_,hD1,hb1⟩
 have HB1:=Aside0.mk hb1
 have HD1:=Aside0.mk hD1
 clear hb1 hD1
 go_wp2_with fail
 refine (K.out w1 d rs gf HD1.out (Kd.C_below HR0.out HB1.out)).mono ?_
 rintro e w2 ⟨r,gt,rfl,hrl,hR,hb2⟩
 have HB2:=Aside0.mk (HB1.out.trans (hb2.mono HB1.out.size))
 have HR2:=Aside0.mk hR
 clear hb2 hR hrl
 go_wp2_with fail
 refine (decodedOK w2 r gt l D st HR2.out HDL.out).mono ?_
 rintro e w3 ⟨x,rfl,⟨Ar,cr,As,cs,rfl,h1,h2⟩,hb3⟩
 have HB3:=Aside0.mk (HB2.out.trans (hb3.mono HB2.out.size))
 have HD3:=Aside0.mk (HD0.out.below HB3.out HD0.out.lt)
 have HBB:=Aside0.mk (show w.heap.size<w2.heap.size by have:=HZ0.out;have:=HB2.out.size;omega)
 have HDI:=Aside0.mk (show DecIs w3 w2.heap.size l D st _ from ⟨Ar,cr,As,cs,rfl,h1,h2⟩)
 obtain⟨t,ht⟩:∃ t,strOfNums st.out=t:=⟨_,rfl⟩
 obtain⟨md,hmd⟩:∃ md:Int,(if st.fc then 3 else 1)=md:=⟨_,rfl⟩
 obtain⟨sq,hsq⟩:∃ sq,st.sq=sq:=⟨_,rfl⟩
 obtain⟨par,hpar⟩:∃ par,st.par=par:=⟨_,rfl⟩
 obtain⟨nm,hnm⟩:∃ nm,lvName l=nm:=⟨_,rfl⟩
 obtain⟨n2,hn2⟩:∃ n2,st.segs.length=n2:=⟨_,rfl⟩
 obtain⟨m,hm⟩:∃ m,D.length=m:=⟨_,rfl⟩
 rw [ht,hmd,hsq,hpar,hnm,hn2,hm]
 have HT:=Aside0.mk ht
 have HMD:=Aside0.mk hmd
 have HSQ:=Aside0.mk hsq
 have HPAR:=Aside0.mk hpar
 have HNM:=Aside0.mk hnm
 have HN2:=Aside0.mk hn2
 have HM:=Aside0.mk hm
 have d0:=HD3.out.cell 0
 have d1:=HD3.out.cell 1
 have d2:=HD3.out.cell 2
 have d3:=HD3.out.cell 3
 have d4:=HD3.out.cell 4
 have d5:=HD3.out.cell 5
 have d6:=HD3.out.cell 6
 have d7:=HD3.out.cell 7
 have f0:=HD3.out.frozen 0
 have f1:=HD3.out.frozen 1
 have f2:=HD3.out.frozen 2
 have f3:=HD3.out.frozen 3
 have f4:=HD3.out.frozen 4
 have f5:=HD3.out.frozen 5
 have f6:=HD3.out.frozen 6
 have f7:=HD3.out.frozen 7
 clear hb3 h1 h2 ht hmd hsq hpar hnm hn2 hm
 go_wp2
 clear d0 d1 d2 d3 d4 d5 d6 d7 f0 f1 f2 f3 f4 f5 f6 f7
 obtain⟨w4,hw4⟩:∃ w4,w4=(((((((w3.setCell ⟨w.heap.size,0,none⟩ (.string t)).setCell ⟨w.heap.size,1,none⟩ (.slice Ar m cr)).setCell ⟨w.heap.size,2,none⟩ (.slice As n2 cs)).setCell ⟨w.heap.size,3,none⟩ (.string nm)).setCell ⟨w.heap.size,4,none⟩ (.int .i64 0)).setCell ⟨w.heap.size,5,none⟩ (.int .i64 sq)).setCell ⟨w.heap.size,6,none⟩ (.int .i64 par)).setCell ⟨w.heap.size,7,none⟩ (.int .i64 md):=⟨_,rfl⟩
 rw [<- hw4]
 have hT:Turn w3 w4 w.heap.size:=by
  rw [hw4]
  exact (((((((Turn.set _ _ _ _).trans (Turn.set _ _ _ _)).trans (Turn.set _ _ _ _)).trans (Turn.set _ _ _ _)).trans (Turn.set _ _ _ _)).trans (Turn.set _ _ _ _)).trans (Turn.set _ _ _ _)).trans (Turn.set _ _ _ _)
 have hD4:Blk w4 w.heap.size 29 #[.string t,.slice Ar m cr,.slice As n2 cs,.string nm,.int .i64 0,.int .i64 sq,.int .i64 par,.int .i64 md]:=by
  rw [hw4]
  exact blk_set (blk_set (blk_set (blk_set (blk_set (blk_set (blk_set (blk_set HD3.out 0 _) 1 _) 2 _) 3 _) 4 _) 5 _) 6 _) 7 _
 have c0:w4.cell? ⟨w.heap.size,0,none⟩=_:=hD4.cell 0
 have c1:w4.cell? ⟨w.heap.size,1,none⟩=_:=hD4.cell 1
 have c2:w4.cell? ⟨w.heap.size,2,none⟩=_:=hD4.cell 2
 have c3:w4.cell? ⟨w.heap.size,3,none⟩=_:=hD4.cell 3
 have c4:w4.cell? ⟨w.heap.size,4,none⟩=_:=hD4.cell 4
 have c5:w4.cell? ⟨w.heap.size,5,none⟩=_:=hD4.cell 5
 have c6:w4.cell? ⟨w.heap.size,6,none⟩=_:=hD4.cell 6
 have c7:w4.cell? ⟨w.heap.size,7,none⟩=_:=hD4.cell 7
 have hbel:Below w.heap.size w w4:=(HB0.out.trans (HB3.out.mono HB0.out.size)).trans (hT.below (Nat.le_refl _))
 refine bodyPost_ret (v:=.tuple #[.agg #[.string t,.slice Ar m cr,.slice As n2 cs,.string nm,.int .i64 0,.int .i64 sq,.int .i64 par,.int .i64 md],.bool true]) (by simp [results,Tryz.results12,go_sem,c0,c1,c2,c3,c4,c5,c6,c7]) rfl ⟨_,rfl,?_,hbel⟩
 have hd:=(HDI.out.move (w':=w4) fun k hk hlt=>hT.block k (by have:=HBB.out;omega)).lower (Nat.le_of_lt HBB.out)
 rw [HT.out,HMD.out,HSQ.out,HPAR.out,HNM.out,HN2.out,HM.out] at hd
 exact hd
def fmtBits (l m:Nat):Nat:=(fmtTab.getD (8*l+m) (0,0)).1
theorem fmtBits_lt (l m:Nat):fmtBits l m<32768:=by
 have h:∀ p∈fmtTab,p.1<32768:=by decide
 unfold fmtBits
 rw [List.getD_eq_getElem?_getD]
 cases h2:fmtTab[8*l+m]? with
 | none=>decide
 | some p=>exact h p (List.mem_of_getElem? h2)
theorem fmt_look:∀ l:Fin 4,∀ m:Fin 8,F.spec_QRFormatBits.f 60 ((l.val:Nat):Int) ((m.val:Nat):Int)=some ((fmtBits l.val m.val:Nat):Int):=by decide +kernel
theorem fmtEv (l m:Nat)(hl:l<4)(hm:m<8):Ev (fun k=>F.spec_QRFormatBits.f k (l:Int) (m:Int)) ((fmtBits l m:Nat):Int) :=
 Ev.of (F.spec_QRFormatBits.mono l m) (fmt_look ⟨l,hl⟩ ⟨m,hm⟩)
theorem fp_fmt (v r c b:Nat)(cs:List Nat)(hv:1<=v/\v<=40)(hr:r<17+4*v)(hc:c<17+4*v)(h:fmtP (17+4*(v:Int)) r c=b):fpB v cs c r=true:=by
 have h2:fmtP (17+4*(v:Int)) r c≥0:=by omega
 have h3:(r<=8/\c<=8)\/(r=8/\c≥17+4*v-8)\/(c=8/\r≥17+4*v-7):=by
  unfold fmtP at h2
  repeat' split at h2
  all_goals omega
 clear h h2
 unfold fpB inReg
 simp only [Bool.or_eq_true,Bool.and_eq_true,decide_eq_true_eq]
 omega
theorem fp_ver (v r t:Nat)(cs:List Nat)(hv:7<=v/\v<=40)(hr:r<6)(ht:t<3):fpB v cs (17+4*v-11+t) r=true:=by
 unfold fpB inReg
 simp only [Bool.or_eq_true,Bool.and_eq_true,decide_eq_true_eq]
 omega
theorem pats_put (F v:Nat)(bit:Nat->Nat×Nat->Bool)(cf:Nat->Nat->Bool)(hv:1<=v/\v<=40)(h:Pats F v (fun x y=>cf y x)) :
  Pats F v (fun x y=>putAll bit (way (17+4*v) (fpB v (ctrs v))) 0 cf y x):=by
 have ho:∀ r c,fpB v (ctrs v) c r=true->putAll bit (way (17+4*v) (fpB v (ctrs v))) 0 cf r c=cf r c:=fun r c hg=>by
  refine putAll_other _ r c _ 0 cf ?_
  intro hm
  have:=(wayF_mem _ _ _ _ _ _ hm).2.2.2
  rw [hg] at this
  cases this
 refine⟨fun r c hr hc b hb=>?_,fun h7 r t hr ht=>?_⟩
 ·show putAll _ _ _ _ r c=_
  rw [ho r c (fp_fmt v r c b _ hv hr hc hb)]
  exact h.fmt r c hr hc b hb
 ·show putAll _ _ _ _ r _=_
  rw [ho r _ (fp_ver v r t _ ⟨h7,hv.2⟩ hr ht)]
  exact h.ver h7 r t hr ht
theorem pats_fmtGo (l m v:Nat)(hl:l<4)(hm:m<8)(hv:1<=v/\v<=40)(f:Nat->Nat->Bool)(h:Pats (fmtBits l m) v f) :
  fmtGo (nacc (fat1 f) 15) (nacc (fat2 f (17+4*v)) 15) fmtTab (2147483647,0)=some (8*l+m):=by
 rw [pats_fmt1 _ v hv f h (fmtBits_lt l m),pats_fmt2 _ v hv f h (fmtBits_lt l m)]
 have:=fmt_found (8*l+m) (fmtBits l m) (fmtBits l m) (by omega) (by unfold fmtBits;rw [hd_self];omega) (by unfold fmtBits;rw [hd_self];omega)
 rw [this,fmt_snd ⟨8*l+m,by omega⟩]
theorem segB_take (c d e:Nat)(ws:List Nat)(k:Nat)(h:offB c d k+dl c d k<=ws.length):(codeB c d e ws k).take (dl c d k)=segB c d ws k:=by
 unfold codeB
 rw [List.take_left' (segB_len c d ws k h)]
theorem list_range_getD (l:List Nat)(n:Nat)(h:l.length=n):(List.range n).map (fun i=>l.getD i 0)=l:=by
 subst h
 apply List.ext_getElem
 ·simp
 ·intro i h1 h2
  simp [List.getD_eq_getElem?_getD,List.getElem?_eq_getElem h2]
theorem codeB_len (c d e:Nat)(ws:List Nat)(k:Nat)(he:1<=e)(h:offB c d k+dl c d k<=ws.length):(codeB c d e ws k).length=dl c d k+e:=by
 unfold codeB
 rw [List.length_append,segB_len c d ws k h,corrOf_len e _ he]
theorem off_le (c d c2 k:Nat)(hk:k<c+c2):offB c d k+dl c d k<=d*(c+c2)+c2:=by
 rw [<- offB_succ,<- offB_end]
 have:=offB_mono c d (k+1) (c+c2-(k+1))
 rwa [show k+1+(c+c2-(k+1))=c+c2 by omega] at this
theorem sym_block (v l:Nat)(ws:List Nat)(hv:1<=v/\v<=40)(hl:l<4)(hn:ws.length=roomD v l)(k:Nat)(hk:k<lvC v l+lvC2 v l) :
  blockWords (lvC v l) (lvD v l) (lvC2 v l) (lvE v l) (symWords v l ws) k=codeB (lvC v l) (lvD v l) (lvE v l) ws k:=by
 unfold symWords
 rw [mixed_block _ _ _ _ _ k hk]
 refine list_range_getD _ _ (codeB_len _ _ _ ws k (lay_at v l hv hl).e1 ?_)
 rw [hn]
 exact off_le _ _ _ k hk
theorem sym_clean (v l:Nat)(ws:List Nat)(hv:1<=v/\v<=40)(hl:l<4)(hn:ws.length=roomD v l)(hw:AllLt 8 ws) :
  Clean (lvC v l) (lvD v l) (lvC2 v l) (lvE v l) (symWords v l ws):=by
 refine⟨fun j hj=>?_,fun j hj i hi=>?_⟩
 ·rw [sym_block v l ws hv hl hn j hj]
  exact codeB_lt _ _ _ ws j hw
 ·rw [sym_block v l ws hv hl hn j hj]
  exact corr_root _ i _ (lay_at v l hv hl).e1 hi (segB_lt _ _ ws j hw)
theorem seg_all (c d:Nat)(ws:List Nat):∀ k,offB c d k<=ws.length->((List.range k).flatMap fun j=>segB c d ws j)=ws.take (offB c d k):=by
 intro k
 induction k with
 | zero=>intro _;simp [offB_zero]
 | succ k ih=>
  intro h
  rw [offB_succ] at h
  rw [List.range_succ,List.flatMap_append,ih (by omega),offB_succ,List.take_add]
  simp [segB]
theorem sym_data (v l:Nat)(ws:List Nat)(hv:1<=v/\v<=40)(hl:l<4)(hn:ws.length=roomD v l):symData v l (symWords v l ws)=ws:=by
 unfold symData dataOf
 have h1:((List.range (lvC v l+lvC2 v l)).flatMap fun j=>(blockWords (lvC v l) (lvD v l) (lvC2 v l) (lvE v l) (symWords v l ws) j).take (dl (lvC v l) (lvD v l) j))=(List.range (lvC v l+lvC2 v l)).flatMap fun j=>segB (lvC v l) (lvD v l) ws j:=by
  apply flatMap_alike
  intro j hj
  rw [sym_block v l ws hv hl hn j (List.mem_range.1 hj)]
  exact segB_take _ _ _ ws j (by rw [hn];exact off_le _ _ _ j (List.mem_range.1 hj))
 have h2:offB (lvC v l) (lvD v l) (lvC v l+lvC2 v l)=ws.length:=by rw [offB_end,hn];rfl
 rw [h1,seg_all _ _ ws _ (by omega),h2,List.take_length]
theorem symOK_words (v l m:Nat)(ws:List Nat)(cf:Nat->Nat->Bool)(st:PS)(hv:1<=v/\v<=40)(hl:l<4)(hm:m<8)(hn:ws.length=roomD v l)(hw:AllLt 8 ws)
  (hcf:∀ r c:Nat,r<17+4*v->c<17+4*v->CellIs ((fmtBits l m:Nat):Int) v r c (cf r c)) (hrd:Rd ws v ⟨0,[],[],false,-1,-1⟩ (some st)) :
  SymOK v (8*l+m) (cellOf (rowsOfB (17+4*v) (putAll (modBit (streamBits (symWords v l ws)) m) (way (17+4*v) (fpB v (ctrs v))) 0 cf) (17+4*v))) st/\
  wordsOf v m (cellOf (rowsOfB (17+4*v) (putAll (modBit (streamBits (symWords v l ws)) m) (way (17+4*v) (fpB v (ctrs v))) 0 cf) (17+4*v)))=symWords v l ws:=by
 have hxl:(symWords v l ws).length=roomN v/8:=by unfold symWords;rw [mixed_len,(lay_at v l hv hl).tot]
 have hx8:=symWords_lt v l ws hw
 have hP:=(pats_put (fmtBits l m) v (modBit (streamBits (symWords v l ws)) m) cf hv (pats_of_cells (fmtBits l m) v hv (fmtBits_lt l m) cf hcf)).congr (h:=cellOf (rowsOfB (17+4*v) (putAll (modBit (streamBits (symWords v l ws)) m) (way (17+4*v) (fpB v (ctrs v))) 0 cf) (17+4*v))) (fun x y hx hy=>(cellOf_rows _ _ x y hx hy).symm) hv.1
 have hW:wordsOf v m (cellOf (rowsOfB (17+4*v) (putAll (modBit (streamBits (symWords v l ws)) m) (way (17+4*v) (fpB v (ctrs v))) 0 cf) (17+4*v)))=symWords v l ws:=by
  refine words_said v m _ _ hv hxl hx8 ?_
  intro i p hp
  have hb:=wayF_lt _ _ p (List.mem_of_getElem? hp) (by omega) (by omega)
  rw [cellOf_rows _ _ _ _ hb.2 hb.1,putAll_at _ (way (17+4*v) (fpB v (ctrs v))) 0 cf (wayF_nodup _ _ _ _ _) i p hp,Nat.zero_add]
  rfl
 have e1:(8*l+m)/8=l:=by omega
 have e2:(8*l+m)%8=m:=by omega
 refine⟨⟨hv,pats_verOK _ v hv _ hP,by omega,pats_fmtGo l m v hl hm hv _ hP,?_,?_⟩,hW⟩
 ·rw [e1,e2,hW]
  exact sym_clean v l ws hv hl hn hw
 ·rw [e1,e2,hW,sym_data v l ws hv hl hn]
  exact hrd
theorem rd_words (v room:Nat)(segs:List Sg)(hs:∀ s∈segs,s.Ok v)(hfit:(sgStream segs v).length<=8*room) :
  ∃ p,Rd (dataWords (sgStream segs v) room) v ⟨0,[],[],false,-1,-1⟩ (some ⟨p,sgText false segs,sgSegs segs,false,-1,-1⟩):=by
 obtain⟨post,h1,h2⟩:=dataWords_says (sgStream segs v) room hfit
 obtain⟨p,hp⟩:=rd_segs (dataWords (sgStream segs v) room) v post h2 segs [] ⟨0,[],[],false,-1,-1⟩ hs (by rw [h1,List.nil_append]) rfl
 exact⟨p,by simpa using hp⟩
theorem Brows.reads {w:World}{B g n:Nat}{q cp:Nat->Nat}{cf:Nat->Nat->Bool}(h:Brows w B g n q cp cf)(hn:n<=1000):BRows w (some ⟨g,0,none⟩) (rowsOfB n cf n):=by
 have hl:(rowsOfB n cf n).length=n:=rowsOfB_len n cf n
 unfold BRows
 rw [hl]
 refine⟨hl,by omega,fun _=>⟨_,rfl,fun j p hj=>?_⟩⟩
 have hjl:j<n:=by
  have:=(List.getElem?_eq_some_iff.1 hj).1
  rwa [hl] at this
 rw [rd_row n cf j hjl] at hj
 obtain rfl:=Option.some.inj hj
 obtain⟨k1,k2,k3,_,k5⟩:=h.row j hjl
 have hrl:(rowOfB n cf j).length=n:=by simp [rowOfB]
 refine⟨[.slice (some ⟨q j,0,none⟩) n (cp j)],rfl,⟨some ⟨q j,0,none⟩,cp j,by rw [hrl],by rw [hrl];exact k3,?_⟩,?_⟩
 ·refine Kd.C_of_reads (enc:=Value.bool) (d:=false) (h1:=fun _=>rfl) ⟨by rw [hrl],by rw [hrl];omega,fun hp=>⟨_,rfl,fun i hi=>?_⟩⟩
  rw [hrl] at hi
  rw [add_off,Nat.zero_add,k5 i hi,List.getD_eq_getElem?_getD]
  unfold rowOfB
  rw [List.getElem?_map,List.getElem?_range hi]
  rfl
 ·intro i u hu
  cases i with
  | zero=>
   obtain rfl:Value.slice (some ⟨q j,0,none⟩) n (cp j)=u:=by simpa using hu
   show w.cell? (Addr.add ⟨g,0,none⟩ (j*1+0))=_
   rw [add_off,Nat.zero_add,Nat.mul_one,Nat.add_zero]
   exact k1
  | succ i=>simp at hu
theorem decodeSym (w:World)(B g cap v l m:Nat)(q cp:Nat->Nat)(ws:List Nat)(cf:Nat->Nat->Bool)(st:PS)(hcap:17+4*v<=cap)
  (hbr:Brows w B g (17+4*v) q cp (putAll (modBit (streamBits (symWords v l ws)) m) (way (17+4*v) (fpB v (ctrs v))) 0 cf)) (hv:1<=v/\v<=40) (hl:l<4) (hm:m<8) (hn:ws.length=roomD v l) (hw:AllLt 8 ws)
  (hcf:∀ r c:Nat,r<17+4*v->c<17+4*v->CellIs ((fmtBits l m:Nat):Int) v r c (cf r c)) (hrd:Rd ws v ⟨0,[],[],false,-1,-1⟩ (some st)) :
  Calls Tryz.prog 12 #[.slice (some ⟨g,0,none⟩) (17+4*v) cap] w fun e w'=>∃ x,e=.returned (.tuple #[x,.bool true])/\DecIs w' w.heap.size l ws st x/\Below w.heap.size w w':=by
 obtain⟨S,hW⟩:=symOK_words v l m ws cf st hv hl hm hn hw hcf hrd
 have e1:(8*l+m)/8=l:=by omega
 have e2:(8*l+m)%8=m:=by omega
 have k:=said12 w v (8*l+m) (some ⟨g,0,none⟩) cap _ st S (hbr.reads (by omega)) (by rw [rowsOfB_len];exact hcap) (rowsOfB_square _ _ (by omega) (by omega))
 rw [e1,e2,hW,sym_data v l ws hv hl hn] at k
 exact k
set_option maxHeartbeats 4000000 in
set_option maxRecDepth 8000 in
theorem back_law (w:World)(A:Option Addr)(c:Nat)(l:List F.S98)(a b m:Nat)(hS:Kd.C F.k98 w A l.length l)(hc:l.length<=c)(hin:∀ s∈l,SegIn s)(ha:a<256)(hb:b<256)(hm:m<256) :
  Calls Tryz.prog 5 #[.slice A l.length c,.int .u8 (a:Int),.int .u8 (b:Int),.int .u8 (m:Int)] w fun e w'=>e=.returned (.bool true)/\Below w.heap.size w w':=by
 obtain⟨ft,hft⟩:=fits8_some l
 obtain⟨k,hk⟩:=hft.rounds
 have c16:=F.laws_zzFits8.calls k A c l ft w hS hc hk
 have HS:=Aside0.mk hS
 have HIN:=Aside0.mk hin
 clear hft hk
 cases ft with
 | false=>
  clear hS hc hin
  go_enter Tryz.func5,Tryz.ntmps5
  go_wp2_with (go_at_call 16;refine c16.mono ?_;rintro e w' ⟨rfl,hd⟩)
  go_ret
  exact⟨rfl,hd⟩
 | true=>
  have c11:=fun W=>F.laws_qrVersion.calls (a:Int) _ W (version_some a ha)
  have c18:=fun W=>F.laws_qrLevel.calls (b:Int) _ W (level_some b hb)
  have c20:=fun W=>F.laws_qrMask.calls (m:Int) _ W (mask_some m hm)
  obtain⟨v,hv⟩:∃ v,1+a%40=v:=⟨_,rfl⟩
  obtain⟨lv,hlv⟩:∃ lv,b%4=lv:=⟨_,rfl⟩
  obtain⟨mk,hmk⟩:∃ mk,m%8=mk:=⟨_,rfl⟩
  rw [hv] at c11
  rw [hlv] at c18
  rw [hmk] at c20
  have hv1:1<=v/\v<=40:=by omega
  have hl4:lv<4:=by omega
  have hm8:mk<8:=by omega
  have C11:=Aside0.mk c11
  have C18:=Aside0.mk c18
  have C20:=Aside0.mk c20
  obtain⟨segs,hsegs⟩:∃ segs,segsOf 4 200 l=segs:=⟨_,rfl⟩
  have hok:∀ s∈segs,SegOK s v/\s.f1.all isAsc=true:=by
   intro s hs
   rw [<- hsegs] at hs
   obtain⟨s0,hs0,rfl⟩:=List.mem_map.1 hs
   exact tseg_ok 200 s0 v (hin s0 (List.mem_of_mem_take hs0)) (by omega)
  have hsl:segs.length<=4:=by rw [<- hsegs];unfold segsOf;rw [List.length_map,List.length_take];omega
  have C17:=Aside0.mk (fun (W:World) (hb2:Below w.heap.size w W)=>by
   have h:=seg17 W A c l.length 4 200 l (Kd.C_below hS hb2) rfl hin (by omega) (by omega)
   rw [hsegs] at h
   exact h)
  have HOK:=Aside0.mk hok
  have HASC:=Aside0.mk (show ascS segs=true by unfold ascS;rw [List.all_eq_true];exact fun s hs=>(hok s hs).2)
  have HBD:=Aside0.mk (show ∀ s∈segs,s.f1.length<=10000/\∀ x∈s.f1,0<=x/\x<=255 from fun s hs=>⟨by have:=(hok s hs).1.short;omega,(hok s hs).1.by_⟩)
  obtain⟨sn,hsn⟩:∃ sn,segs.length=sn:=⟨_,rfl⟩
  have HSN:=Aside0.mk hsn
  have hsl':sn<=4:=by omega
  clear hS hc hin hv hlv hmk c11 c18 c20 hsegs hok hsn ha hb hm
  by_cases hfit:(sgStream (segs.map toSg) v).length<=8*roomD v lv
  ·obtain⟨cf,hcf,hpat⟩:=patterns_run _ (lv:Int) (mk:Int) (fmtEv lv mk hl4 hm8) v hv1
   obtain⟨p,hrd⟩:=rd_words v (roomD v lv) (segs.map toSg) (fun s hs=>by obtain⟨s0,hs0,rfl⟩:=List.mem_map.1 hs;exact (HOK.out s0 hs0).1.ok) hfit
   have hlen:=dataWords_len (sgStream (segs.map toSg) v) (roomD v lv) hfit
   have hlt:=dataWords_lt (sgStream (segs.map toSg) v) (roomD v lv)
   obtain⟨st,hst⟩:∃ st,st=PS.mk p (sgText false (segs.map toSg)) (sgSegs (segs.map toSg)) false (-1) (-1):=⟨_,rfl⟩
   rw [<- hst] at hrd
   have HTX:=Aside0.mk (show st.out=flatS segs by rw [hst];exact flat_toSg segs)
   have HSG:=Aside0.mk (show st.segs=segs4 segs by rw [hst];exact segs4_toSg segs (fun s hs=>(HOK.out s hs).1.mode))
   have C19:=Aside0.mk (fun (W:World) (A':Option Addr) (c':Nat) (h:Kd.C F.k98 W A' sn segs)=>sym19 W A' c' sn v lv mk segs cf h HSN.out hv1 hl4 hm8 (fun s hs=>(HOK.out s hs).1) (by omega) hfit hpat)
   obtain⟨ws,hws⟩:∃ ws,dataWords (sgStream (segs.map toSg) v) (roomD v lv)=ws:=⟨_,rfl⟩
   rw [hws] at hrd hlen hlt C19
   have C12:=Aside0.mk (fun (W:World) (B g cap:Nat) (q cp:Nat->Nat) (h1:17+4*v<=cap) (h2:Brows W B g (17+4*v) q cp (putAll (modBit (streamBits (symWords v lv ws)) mk) (way (17+4*v) (fpB v (ctrs v))) 0 cf))=>decodeSym W B g cap v lv mk q cp ws cf st h1 h2 hv1 hl4 hm8 hlen hlt hcf hrd)
   have C21:=Aside0.mk (fun (W:World) (A':Option Addr) (c' base:Nat) (d:Value) (h1:DecIs W base lv ws st d) (h2:Kd.C F.k98 W A' sn segs)=>says21 W A' c' sn lv base segs ws st d h1 h2 HSN.out HBD.out (by omega) hl4 HTX.out HSG.out HASC.out)
   clear hcf hpat hrd hlen hlt hst hws hfit HTX HSG HOK HASC HBD
   obtain⟨N,hN⟩:∃ N,17+4*v=N:=⟨_,rfl⟩
   rw [hN] at C19 C12
   obtain⟨md,hmd⟩:∃ md,putAll (modBit (streamBits (symWords v lv ws)) mk) (way N (fpB v (ctrs v))) 0 cf=md:=⟨_,rfl⟩
   rw [hmd] at C19 C12
   clear hN hmd
   go_enter Tryz.func5,Tryz.ntmps5
   go_wp2_with fail
   refine c16.mono ?_
   rintro e w1 ⟨rfl,hb1⟩
   have HB1:=Aside0.mk hb1
   clear hb1
   go_wp2_with fail
   refine (C17.out w1 HB1.out).mono ?_
   rintro e w2 ⟨v2,rfl,hR2,hb2⟩
   obtain⟨A2,c2,rfl,hc2,hC2⟩:=Kd.R_reads hR2
   rw [HSN.out] at hc2 hC2 ⊢
   have HB2:=Aside0.mk (HB1.out.trans (hb2.mono HB1.out.size))
   have HC2:=Aside0.mk hC2
   clear hR2 hb2 hC2
   go_wp2_with fail
   refine (C11.out w2).mono ?_
   rintro e w3 ⟨rfl,hd3⟩
   have HB3:=Aside0.mk (HB2.out.trans (hd3.below.mono HB2.out.size))
   have HC3:=Aside0.mk (Kd.C_below HC2.out hd3.below)
   clear hd3
   go_wp2_with fail
   refine (C18.out w3).mono ?_
   rintro e w4 ⟨rfl,hd4⟩
   have HB4:=Aside0.mk (HB3.out.trans (hd4.below.mono HB3.out.size))
   have HC4:=Aside0.mk (Kd.C_below HC3.out hd4.below)
   clear hd4
   go_wp2_with fail
   refine (C20.out w4).mono ?_
   rintro e w5 ⟨rfl,hd5⟩
   have HB5:=Aside0.mk (HB4.out.trans (hd5.below.mono HB4.out.size))
   have HC5:=Aside0.mk (Kd.C_below HC4.out hd5.below)
   clear hd5
   go_wp2_with fail
   refine (C19.out w5 A2 c2 HC5.out).mono ?_
   rintro e w6 ⟨g6,cap6,q6,cp6,rfl,hcap6,hbr6,hb6⟩
   have HB6:=Aside0.mk (HB5.out.trans (hb6.mono HB5.out.size))
   have HC6:=Aside0.mk (Kd.C_below HC5.out hb6)
   have HBR6:=Aside0.mk hbr6
   clear hb6 hbr6
   go_wp2_with fail
   refine (C12.out w6 _ g6 cap6 q6 cp6 hcap6.1 HBR6.out).mono ?_
   rintro e w7 ⟨d,rfl,hd7,hb7⟩
   have HB7:=Aside0.mk (HB6.out.trans (hb7.mono HB6.out.size))
   have HC7:=Aside0.mk (Kd.C_below HC6.out hb7)
   obtain⟨Ar,cr,As,cs,hdv,h1,h2⟩:=hd7
   obtain⟨t,ht⟩:∃ t,strOfNums st.out=t:=⟨_,rfl⟩
   obtain⟨nr,hnr⟩:∃ nr,ws.length=nr:=⟨_,rfl⟩
   obtain⟨ns,hns⟩:∃ ns,st.segs.length=ns:=⟨_,rfl⟩
   obtain⟨md,hmd⟩:∃ md:Int,(if st.fc then 3 else 1)=md:=⟨_,rfl⟩
   obtain⟨sq,hsq⟩:∃ sq,st.sq=sq:=⟨_,rfl⟩
   obtain⟨par,hpar⟩:∃ par,st.par=par:=⟨_,rfl⟩
   obtain⟨nm,hnm⟩:∃ nm,lvName lv=nm:=⟨_,rfl⟩
   have HD7:=Aside0.mk (show DecIs w7 w6.heap.size lv ws st d from ⟨Ar,cr,As,cs,hdv,h1,h2⟩)
   rw [ht,hnr,hns,hmd,hsq,hpar,hnm] at hdv
   subst hdv
   obtain⟨w8,hw8⟩:∃ w8,w8=w7.alloc (.cells #[.string t,.slice Ar nr cr,.slice As ns cs,.string nm,.int .i64 0,.int .i64 sq,.int .i64 par,.int .i64 md] 29):=⟨_,rfl⟩
   have HW8:=Aside0.mk hw8
   have HB8:=Aside0.mk (show Below w.heap.size w w8 by rw [hw8];exact HB7.out.alloc HB7.out.size _)
   have HL8:=Aside0.mk (show Below w7.heap.size w7 w8 by rw [hw8];exact below_alloc (Below.refl _ _) _)
   have HK8:=Aside0.mk (show Blk w8 w7.heap.size 29 #[.string t,.slice Ar nr cr,.slice As ns cs,.string nm,.int .i64 0,.int .i64 sq,.int .i64 par,.int .i64 md] by rw [hw8];exact Blk.new _ _ _)
   have HD8:=Aside0.mk (HD7.out.below HL8.out)
   have HC8:=Aside0.mk (Kd.C_below HC7.out HL8.out)
   clear hw8 h1 h2 ht hnr hns hmd hsq hpar hnm hb7
   go_wp2_with fail
   rw [<- HW8.out]
   have e0:=HK8.out.cell 0
   have e1:=HK8.out.cell 1
   have e2:=HK8.out.cell 2
   have e3:=HK8.out.cell 3
   have e4:=HK8.out.cell 4
   have e5:=HK8.out.cell 5
   have e6:=HK8.out.cell 6
   have e7:=HK8.out.cell 7
   have k18:=C18.out w8.drew
   have HBD:=Aside0.mk (show Below w.heap.size w w8.drew from ⟨HB8.out.os,HB8.out.tape,HB8.out.output,HB8.out.size,HB8.out.block⟩)
   have HD9:=Aside0.mk (HD8.out.below (show Below w8.heap.size w8 w8.drew from ⟨rfl,rfl,rfl,Nat.le_refl _,fun _ _=>rfl⟩))
   have HC9:=Aside0.mk (Kd.C_below HC8.out (show Below w8.heap.size w8 w8.drew from ⟨rfl,rfl,rfl,Nat.le_refl _,fun _ _=>rfl⟩))
   have HKD:=Aside0.mk (show Blk w8.drew w7.heap.size 29 _ from HK8.out)
   have K21:=Aside0.mk (fun (W:World) (hb:Below w8.drew.heap.size w8.drew W)=>C21.out W A2 c2 _ _ (HD9.out.below hb) (Kd.C_below HC9.out hb))
   go_region_with (first | (go_at_call 18;with_reducible (refine k18.mono ?_);rintro e w9 ⟨rfl,hd9⟩;have HB9:=Aside0.mk (HBD.out.trans (hd9.below.mono HBD.out.size));have k21:=K21.out w9 hd9.below;have HK9:=Aside0.mk (Blk.below HKD.out hd9.below HKD.out.lt);have f0:=HK9.out.cell 0;have f1:=HK9.out.cell 1;have f2:=HK9.out.cell 2;have f3:=HK9.out.cell 3;have f4:=HK9.out.cell 4;have f5:=HK9.out.cell 5;have f6:=HK9.out.cell 6;have f7:=HK9.out.cell 7;clear hd9) | (go_at_call 21;with_reducible (refine k21.mono ?_);rintro e w10 ⟨rfl,hb10⟩;have HB10:=Aside0.mk (HB9.out.trans (hb10.mono HB9.out.size));clear hb10))
   all_goals
    clear e0 e1 e2 e3 e4 e5 e6 e7 f0 f1 f2 f3 f4 f5 f6 f7
    go_wp2_with fail
    go_ret
    exact⟨rfl,HB10.out⟩
  ·have C19:=Aside0.mk (fun (W:World) (A':Option Addr) (c':Nat) (h:Kd.C F.k98 W A' sn segs)=>sym19_no W A' c' sn v lv mk segs h HSN.out hv1 hl4 (fun s hs=>(HOK.out s hs).1) (by omega) hfit)
   clear hfit HOK HASC HBD
   go_enter Tryz.func5,Tryz.ntmps5
   go_wp2_with fail
   refine c16.mono ?_
   rintro e w1 ⟨rfl,hb1⟩
   have HB1:=Aside0.mk hb1
   clear hb1
   go_wp2_with fail
   refine (C17.out w1 HB1.out).mono ?_
   rintro e w2 ⟨v2,rfl,hR2,hb2⟩
   obtain⟨A2,c2,rfl,hc2,hC2⟩:=Kd.R_reads hR2
   rw [HSN.out] at hc2 hC2 ⊢
   have HB2:=Aside0.mk (HB1.out.trans (hb2.mono HB1.out.size))
   have HC2:=Aside0.mk hC2
   clear hR2 hb2 hC2
   go_wp2_with fail
   refine (C11.out w2).mono ?_
   rintro e w3 ⟨rfl,hd3⟩
   have HB3:=Aside0.mk (HB2.out.trans (hd3.below.mono HB2.out.size))
   have HC3:=Aside0.mk (Kd.C_below HC2.out hd3.below)
   clear hd3
   go_wp2_with fail
   refine (C18.out w3).mono ?_
   rintro e w4 ⟨rfl,hd4⟩
   have HB4:=Aside0.mk (HB3.out.trans (hd4.below.mono HB3.out.size))
   have HC4:=Aside0.mk (Kd.C_below HC3.out hd4.below)
   clear hd4
   go_wp2_with fail
   refine (C20.out w4).mono ?_
   rintro e w5 ⟨rfl,hd5⟩
   have HB5:=Aside0.mk (HB4.out.trans (hd5.below.mono HB4.out.size))
   have HC5:=Aside0.mk (Kd.C_below HC4.out hd5.below)
   clear hd5
   go_wp2_with fail
   refine (C19.out w5 A2 c2 HC5.out).mono ?_
   rintro e w6 ⟨rfl,hb6⟩
   have HB6:=Aside0.mk (HB5.out.trans (hb6.mono HB5.out.size))
   clear hb6
   go_wp2_with fail
   go_ret
   exact⟨rfl,HB6.out⟩
end Go.Proofs.YtgccjgpdjkhpdaaGreat.B
