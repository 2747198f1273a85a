import Derived.Test.YtgccjgpdjkhpdaaGreatVQ31
import Derived.Test.YtgccjgpdjkhpdaaGreatVQ42
import Derived.Test.YtgccjgpdjkhpdaaGreatVQ47
/-! Own texts of this claim, part 44. -/
namespace Go.Proofs.YtgccjgpdjkhpdaaGreat.B
open Go.RowKit Go.Proofs.YtgccjgpdjkhpdaaGreatW.PrintWords Go.Proofs.YtgccjgpdjkhpdaaGreatW.PrintLast Go.Proofs.YtgccjgpdjkhpdaaGreatW.PrintMore
set_option linter.unusedVariables false
set_option linter.unusedSimpArgs false
set_option maxHeartbeats 2000000 in
set_option maxRecDepth 100000 in
theorem said12 (w:World)(v dn:Nat)(A:Option Addr)(c:Nat)(rows:List (List Bool))(st:PS)(S:SymOK v dn (cellOf rows) st)(hr:BRows w A rows)(hc:rows.length<=c)(hs:Square rows (17+4*v)) :
  Calls Tryz.prog 12 #[.slice A (17+4*v) c] w fun e w'=>∃ x,e=.returned (.tuple #[x,.bool true])/\DecIs w' w.heap.size (dn/8) (symData v (dn/8) (wordsOf v (dn%8) (cellOf rows))) st x/\Below w.heap.size w w':=by
 have hl4:dn/8<4:=by have:=S.dn32;omega
 have hDl:(symData v (dn/8) (wordsOf v (dn%8) (cellOf rows))).length<=100000:=Nat.le_trans (symData_len v (dn/8) _ S.hv hl4) (by decide)
 obtain⟨w0,hw0⟩:∃ w0,w0=w.alloc (.cells #[.string ⟨#[]⟩,.slice none 0 0,.slice none 0 0,.string ⟨#[]⟩,.int .i64 0,.int .i64 0,.int .i64 0,.int .i64 0] 29):=⟨_,rfl⟩
 have HB0:=Aside0.mk (show Below w.heap.size w w0 by rw [hw0];exact below_alloc (Below.refl _ _) _)
 have HD0:=Aside0.mk (show Blk w0 w.heap.size 29 #[.string ⟨#[]⟩,.slice none 0 0,.slice none 0 0,.string ⟨#[]⟩,.int .i64 0,.int .i64 0,.int .i64 0,.int .i64 0] by rw [hw0];exact Blk.new _ _ _)
 have HZ0:=Aside0.mk (show w0.heap.size=w.heap.size+1 by rw [hw0];simp)
 have HW:=Aside0.mk hw0
 have HR0:=Aside0.mk (Kd.C_below hr HB0.out)
 have K:=Aside0.mk (fun (W:World) (dd rs gf:Nat) (h:DecAt W dd rs gf) (hb:BRows W A rows)=>said37 W dd rs gf v dn A c rows st S h hb hc hs)
 obtain⟨D,hDD⟩:∃ D,symData v (dn/8) (wordsOf v (dn%8) (cellOf rows))=D:=⟨_,rfl⟩
 rw [hDD] at K hDl ⊢
 obtain⟨l,hl⟩:∃ l,dn/8=l:=⟨_,rfl⟩
 rw [hl] at K ⊢
 obtain⟨n,hn⟩:∃ n,17+4*v=n:=⟨_,rfl⟩
 rw [hn] at K ⊢
 have HDL:=Aside0.mk hDl
 clear S hr hc hs hDD hl hn hl4 hw0 hDl
 go_enter Tryz.func12,Tryz.ntmps12
 go_wp2_with fail
 rw [<- HW.out]
 refine (newDec w0).mono ?_
 rintro e w1 ⟨d,rs,gf,rfl,_,_,_,hD1,hb1⟩
 have HB1:=Aside0.mk hb1
 have HD1:=Aside0.mk hD1
 clear hb1 hD1
 go_wp2_with fail
 refine (K.out w1 d rs gf HD1.out (Kd.C_below HR0.out HB1.out)).mono ?_
 rintro e w2 ⟨r,gt,rfl,hrl,hR,hb2⟩
 have HB2:=Aside0.mk (HB1.out.trans (hb2.mono HB1.out.size))
 have HR2:=Aside0.mk hR
 clear hb2 hR hrl
 go_wp2_with fail
 refine (decodedOK w2 r gt l D st HR2.out HDL.out).mono ?_
 rintro e w3 ⟨x,rfl,⟨Ar,cr,As,cs,rfl,h1,h2⟩,hb3⟩
 have HB3:=Aside0.mk (HB2.out.trans (hb3.mono HB2.out.size))
 have HD3:=Aside0.mk (HD0.out.below HB3.out HD0.out.lt)
 have HBB:=Aside0.mk (show w.heap.size<w2.heap.size by have:=HZ0.out;have:=HB2.out.size;omega)
 have HDI:=Aside0.mk (show DecIs w3 w2.heap.size l D st _ from ⟨Ar,cr,As,cs,rfl,h1,h2⟩)
 obtain⟨t,ht⟩:∃ t,strOfNums st.out=t:=⟨_,rfl⟩
 obtain⟨md,hmd⟩:∃ md:Int,(if st.fc then 3 else 1)=md:=⟨_,rfl⟩
 obtain⟨sq,hsq⟩:∃ sq,st.sq=sq:=⟨_,rfl⟩
 obtain⟨par,hpar⟩:∃ par,st.par=par:=⟨_,rfl⟩
 obtain⟨nm,hnm⟩:∃ nm,lvName l=nm:=⟨_,rfl⟩
 obtain⟨n2,hn2⟩:∃ n2,st.segs.length=n2:=⟨_,rfl⟩
 obtain⟨m,hm⟩:∃ m,D.length=m:=⟨_,rfl⟩
 rw [ht,hmd,hsq,hpar,hnm,hn2,hm]
 have HT:=Aside0.mk ht
 have HMD:=Aside0.mk hmd
 have HSQ:=Aside0.mk hsq
 have HPAR:=Aside0.mk hpar
 have HNM:=Aside0.mk hnm
 have HN2:=Aside0.mk hn2
 have HM:=Aside0.mk hm
 have d0:=HD3.out.cell 0
 have d1:=HD3.out.cell 1
 have d2:=HD3.out.cell 2
 have d3:=HD3.out.cell 3
 have d4:=HD3.out.cell 4
 have d5:=HD3.out.cell 5
 have d6:=HD3.out.cell 6
 have d7:=HD3.out.cell 7
 have f0:=HD3.out.frozen 0
 have f1:=HD3.out.frozen 1
 have f2:=HD3.out.frozen 2
 have f3:=HD3.out.frozen 3
 have f4:=HD3.out.frozen 4
 have f5:=HD3.out.frozen 5
 have f6:=HD3.out.frozen 6
 have f7:=HD3.out.frozen 7
 clear hb3 h1 h2 ht hmd hsq hpar hnm hn2 hm
 go_wp2
 clear d0 d1 d2 d3 d4 d5 d6 d7 f0 f1 f2 f3 f4 f5 f6 f7
 obtain⟨w4,hw4⟩:∃ w4,w4=(((((((w3.setCell ⟨w.heap.size,0,none⟩ (.string t)).setCell ⟨w.heap.size,1,none⟩ (.slice Ar m cr)).setCell ⟨w.heap.size,2,none⟩ (.slice As n2 cs)).setCell ⟨w.heap.size,3,none⟩ (.string nm)).setCell ⟨w.heap.size,4,none⟩ (.int .i64 0)).setCell ⟨w.heap.size,5,none⟩ (.int .i64 sq)).setCell ⟨w.heap.size,6,none⟩ (.int .i64 par)).setCell ⟨w.heap.size,7,none⟩ (.int .i64 md):=⟨_,rfl⟩
 rw [<- hw4]
 have hT:Turn w3 w4 w.heap.size:=by
  rw [hw4]
  exact (((((((Turn.set _ _ _ _).trans (Turn.set _ _ _ _)).trans (Turn.set _ _ _ _)).trans (Turn.set _ _ _ _)).trans (Turn.set _ _ _ _)).trans (Turn.set _ _ _ _)).trans (Turn.set _ _ _ _)).trans (Turn.set _ _ _ _)
 have hD4:Blk w4 w.heap.size 29 #[.string t,.slice Ar m cr,.slice As n2 cs,.string nm,.int .i64 0,.int .i64 sq,.int .i64 par,.int .i64 md]:=by
  rw [hw4]
  exact blk_set (blk_set (blk_set (blk_set (blk_set (blk_set (blk_set (blk_set HD3.out 0 _) 1 _) 2 _) 3 _) 4 _) 5 _) 6 _) 7 _
 have c0:w4.cell? ⟨w.heap.size,0,none⟩=_:=hD4.cell 0
 have c1:w4.cell? ⟨w.heap.size,1,none⟩=_:=hD4.cell 1
 have c2:w4.cell? ⟨w.heap.size,2,none⟩=_:=hD4.cell 2
 have c3:w4.cell? ⟨w.heap.size,3,none⟩=_:=hD4.cell 3
 have c4:w4.cell? ⟨w.heap.size,4,none⟩=_:=hD4.cell 4
 have c5:w4.cell? ⟨w.heap.size,5,none⟩=_:=hD4.cell 5
 have c6:w4.cell? ⟨w.heap.size,6,none⟩=_:=hD4.cell 6
 have c7:w4.cell? ⟨w.heap.size,7,none⟩=_:=hD4.cell 7
 have hbel:Below w.heap.size w w4:=(HB0.out.trans (HB3.out.mono HB0.out.size)).trans (hT.below (Nat.le_refl _))
 refine bodyPost_ret (v:=.tuple #[.agg #[.string t,.slice Ar m cr,.slice As n2 cs,.string nm,.int .i64 0,.int .i64 sq,.int .i64 par,.int .i64 md],.bool true]) (by simp [results,Tryz.results12,go_sem,c0,c1,c2,c3,c4,c5,c6,c7]) rfl ⟨_,rfl,?_,hbel⟩
 have hd:=(HDI.out.move (w':=w4) fun k hk hlt=>hT.block k (by have:=HBB.out;omega)).lower (Nat.le_of_lt HBB.out)
 rw [HT.out,HMD.out,HSQ.out,HPAR.out,HNM.out,HN2.out,HM.out] at hd
 exact hd
theorem own_rblk {w:World}{base n g c:Nat}{xs:List Nat}(h:w.ownsRow base 5 1 (.slice (some ⟨g,0,none⟩) n c) n (nums .u8 (ints xs)))(h0:0<n):RBlk w g xs/\capAt w g=c/\xs.length=n:=by
 obtain⟨hlen,h2⟩:=h
 have hxn:xs.length=n:=by rw [<- ints_len xs];simpa [nums] using hlen
 rcases h2 with⟨hv,h3⟩ | ⟨q,c',cs,hv,hb,hh,hc,hm,hs,ht⟩
 ·omega
 ·injection hv with e1 e2 e3
  injection e1 with e1
  injection e1 with e1
  subst e1 e3
  have hk:Blk w g 5 cs:=hh
  refine⟨⟨⟨cs,hk⟩,fun i hi=>?_⟩,by rw [capAt_blk hk,hs];omega,hxn⟩
  rw [Blk.cell hk i]
  have h5:(cs.toList.take n)[i]? = (nums .u8 (ints xs))[i]?:=by rw [Nat.mul_one] at ht;rw [ht]
  rw [List.getElem?_take_of_lt (by omega)] at h5
  rw [<- Array.getElem?_toList,h5]
  simp [nums,ints,List.getElem?_map,List.getElem?_eq_getElem hi,List.getD_eq_getElem?_getD]
def fmtBits (l m:Nat):Nat:=(fmtTab.getD (8*l+m) (0,0)).1
theorem fmtBits_lt (l m:Nat):fmtBits l m<32768:=by
 have h:∀ p∈fmtTab,p.1<32768:=by decide
 unfold fmtBits
 rw [List.getD_eq_getElem?_getD]
 cases h2:fmtTab[8*l+m]? with
 | none=>decide
 | some p=>exact h p (List.mem_of_getElem? h2)
theorem fmt_look:∀ l:Fin 4,∀ m:Fin 8,F.spec_QRFormatBits.f 60 ((l.val:Nat):Int) ((m.val:Nat):Int)=some ((fmtBits l.val m.val:Nat):Int):=by decide +kernel
theorem fmtEv (l m:Nat)(hl:l<4)(hm:m<8):Ev (fun k=>F.spec_QRFormatBits.f k (l:Int) (m:Int)) ((fmtBits l m:Nat):Int) :=
 Ev.of (F.spec_QRFormatBits.mono l m) (fmt_look ⟨l,hl⟩ ⟨m,hm⟩)
theorem fp_fmt (v r c b:Nat)(cs:List Nat)(hv:1<=v/\v<=40)(hr:r<17+4*v)(hc:c<17+4*v)(h:fmtP (17+4*(v:Int)) r c=b):fpB v cs c r=true:=by
 have h2:fmtP (17+4*(v:Int)) r c≥0:=by omega
 have h3:(r<=8/\c<=8)\/(r=8/\c≥17+4*v-8)\/(c=8/\r≥17+4*v-7):=by
  unfold fmtP at h2
  repeat' split at h2
  all_goals omega
 clear h h2
 unfold fpB inReg
 simp only [Bool.or_eq_true,Bool.and_eq_true,decide_eq_true_eq]
 omega
theorem fp_ver (v r t:Nat)(cs:List Nat)(hv:7<=v/\v<=40)(hr:r<6)(ht:t<3):fpB v cs (17+4*v-11+t) r=true:=by
 unfold fpB inReg
 simp only [Bool.or_eq_true,Bool.and_eq_true,decide_eq_true_eq]
 omega
theorem pats_put (F v:Nat)(bit:Nat->Nat×Nat->Bool)(cf:Nat->Nat->Bool)(hv:1<=v/\v<=40)(h:Pats F v (fun x y=>cf y x)) :
  Pats F v (fun x y=>putAll bit (way (17+4*v) (fpB v (ctrs v))) 0 cf y x):=by
 have ho:∀ r c,fpB v (ctrs v) c r=true->putAll bit (way (17+4*v) (fpB v (ctrs v))) 0 cf r c=cf r c:=fun r c hg=>by
  refine putAll_other _ r c _ 0 cf ?_
  intro hm
  have:=(wayF_mem _ _ _ _ _ _ hm).2.2.2
  rw [hg] at this
  cases this
 refine⟨fun r c hr hc b hb=>?_,fun h7 r t hr ht=>?_⟩
 ·show putAll _ _ _ _ r c=_
  rw [ho r c (fp_fmt v r c b _ hv hr hc hb)]
  exact h.fmt r c hr hc b hb
 ·show putAll _ _ _ _ r _=_
  rw [ho r _ (fp_ver v r t _ ⟨h7,hv.2⟩ hr ht)]
  exact h.ver h7 r t hr ht
theorem pats_fmtGo (l m v:Nat)(hl:l<4)(hm:m<8)(hv:1<=v/\v<=40)(f:Nat->Nat->Bool)(h:Pats (fmtBits l m) v f) :
  fmtGo (nacc (fat1 f) 15) (nacc (fat2 f (17+4*v)) 15) fmtTab (2147483647,0)=some (8*l+m):=by
 rw [pats_fmt1 _ v hv f h (fmtBits_lt l m),pats_fmt2 _ v hv f h (fmtBits_lt l m)]
 have:=fmt_found (8*l+m) (fmtBits l m) (fmtBits l m) (by omega) (by unfold fmtBits;rw [hd_self];omega) (by unfold fmtBits;rw [hd_self];omega)
 rw [this,fmt_snd ⟨8*l+m,by omega⟩]
theorem segB_take (c d e:Nat)(ws:List Nat)(k:Nat)(h:offB c d k+dl c d k<=ws.length):(codeB c d e ws k).take (dl c d k)=segB c d ws k:=by
 unfold codeB
 rw [List.take_left' (segB_len c d ws k h)]
theorem list_range_getD (l:List Nat)(n:Nat)(h:l.length=n):(List.range n).map (fun i=>l.getD i 0)=l:=by
 subst h
 apply List.ext_getElem
 ·simp
 ·intro i h1 h2
  simp [List.getD_eq_getElem?_getD,List.getElem?_eq_getElem h2]
theorem codeB_len (c d e:Nat)(ws:List Nat)(k:Nat)(he:1<=e)(h:offB c d k+dl c d k<=ws.length):(codeB c d e ws k).length=dl c d k+e:=by
 unfold codeB
 rw [List.length_append,segB_len c d ws k h,corrOf_len e _ he]
theorem off_le (c d c2 k:Nat)(hk:k<c+c2):offB c d k+dl c d k<=d*(c+c2)+c2:=by
 rw [<- offB_succ,<- offB_end]
 have:=offB_mono c d (k+1) (c+c2-(k+1))
 rwa [show k+1+(c+c2-(k+1))=c+c2 by omega] at this
theorem sym_block (v l:Nat)(ws:List Nat)(hv:1<=v/\v<=40)(hl:l<4)(hn:ws.length=roomD v l)(k:Nat)(hk:k<lvC v l+lvC2 v l) :
  blockWords (lvC v l) (lvD v l) (lvC2 v l) (lvE v l) (symWords v l ws) k=codeB (lvC v l) (lvD v l) (lvE v l) ws k:=by
 unfold symWords
 rw [mixed_block _ _ _ _ _ k hk]
 refine list_range_getD _ _ (codeB_len _ _ _ ws k (lay_at v l hv hl).e1 ?_)
 rw [hn]
 exact off_le _ _ _ k hk
theorem sym_clean (v l:Nat)(ws:List Nat)(hv:1<=v/\v<=40)(hl:l<4)(hn:ws.length=roomD v l)(hw:AllLt 8 ws) :
  Clean (lvC v l) (lvD v l) (lvC2 v l) (lvE v l) (symWords v l ws):=by
 refine⟨fun j hj=>?_,fun j hj i hi=>?_⟩
 ·rw [sym_block v l ws hv hl hn j hj]
  exact codeB_lt _ _ _ ws j hw
 ·rw [sym_block v l ws hv hl hn j hj]
  exact corr_root _ i _ (lay_at v l hv hl).e1 hi (segB_lt _ _ ws j hw)
theorem seg_all (c d:Nat)(ws:List Nat):∀ k,offB c d k<=ws.length->((List.range k).flatMap fun j=>segB c d ws j)=ws.take (offB c d k):=by
 intro k
 induction k with
 | zero=>intro _;simp [offB_zero]
 | succ k ih=>
  intro h
  rw [offB_succ] at h
  rw [List.range_succ,List.flatMap_append,ih (by omega),offB_succ,List.take_add]
  simp [segB]
theorem sym_data (v l:Nat)(ws:List Nat)(hv:1<=v/\v<=40)(hl:l<4)(hn:ws.length=roomD v l):symData v l (symWords v l ws)=ws:=by
 unfold symData dataOf
 have h1:((List.range (lvC v l+lvC2 v l)).flatMap fun j=>(blockWords (lvC v l) (lvD v l) (lvC2 v l) (lvE v l) (symWords v l ws) j).take (dl (lvC v l) (lvD v l) j))=(List.range (lvC v l+lvC2 v l)).flatMap fun j=>segB (lvC v l) (lvD v l) ws j:=by
  apply flatMap_alike
  intro j hj
  rw [sym_block v l ws hv hl hn j (List.mem_range.1 hj)]
  exact segB_take _ _ _ ws j (by rw [hn];exact off_le _ _ _ j (List.mem_range.1 hj))
 have h2:offB (lvC v l) (lvD v l) (lvC v l+lvC2 v l)=ws.length:=by rw [offB_end,hn];rfl
 rw [h1,seg_all _ _ ws _ (by omega),h2,List.take_length]
theorem symOK_words (v l m:Nat)(ws:List Nat)(cf:Nat->Nat->Bool)(st:PS)(hv:1<=v/\v<=40)(hl:l<4)(hm:m<8)(hn:ws.length=roomD v l)(hw:AllLt 8 ws)
  (hcf:∀ r c:Nat,r<17+4*v->c<17+4*v->CellIs ((fmtBits l m:Nat):Int) v r c (cf r c)) (hrd:Rd ws v ⟨0,[],[],false,-1,-1⟩ (some st)) :
  SymOK v (8*l+m) (cellOf (rowsOfB (17+4*v) (putAll (modBit (streamBits (symWords v l ws)) m) (way (17+4*v) (fpB v (ctrs v))) 0 cf) (17+4*v))) st/\
  wordsOf v m (cellOf (rowsOfB (17+4*v) (putAll (modBit (streamBits (symWords v l ws)) m) (way (17+4*v) (fpB v (ctrs v))) 0 cf) (17+4*v)))=symWords v l ws:=by
 have hxl:(symWords v l ws).length=roomN v/8:=by unfold symWords;rw [mixed_len,(lay_at v l hv hl).tot]
 have hx8:=symWords_lt v l ws hw
 have hP:=(pats_put (fmtBits l m) v (modBit (streamBits (symWords v l ws)) m) cf hv (pats_of_cells (fmtBits l m) v hv (fmtBits_lt l m) cf hcf)).congr (h:=cellOf (rowsOfB (17+4*v) (putAll (modBit (streamBits (symWords v l ws)) m) (way (17+4*v) (fpB v (ctrs v))) 0 cf) (17+4*v))) (fun x y hx hy=>(cellOf_rows _ _ x y hx hy).symm) hv.1
 have hW:wordsOf v m (cellOf (rowsOfB (17+4*v) (putAll (modBit (streamBits (symWords v l ws)) m) (way (17+4*v) (fpB v (ctrs v))) 0 cf) (17+4*v)))=symWords v l ws:=by
  refine words_said v m _ _ hv hxl hx8 ?_
  intro i p hp
  have hb:=wayF_lt _ _ p (List.mem_of_getElem? hp) (by omega) (by omega)
  rw [cellOf_rows _ _ _ _ hb.2 hb.1,putAll_at _ (way (17+4*v) (fpB v (ctrs v))) 0 cf (wayF_nodup _ _ _ _ _) i p hp,Nat.zero_add]
  rfl
 have e1:(8*l+m)/8=l:=by omega
 have e2:(8*l+m)%8=m:=by omega
 refine⟨⟨hv,pats_verOK _ v hv _ hP,by omega,pats_fmtGo l m v hl hm hv _ hP,?_,?_⟩,hW⟩
 ·rw [e1,e2,hW]
  exact sym_clean v l ws hv hl hn hw
 ·rw [e1,e2,hW,sym_data v l ws hv hl hn]
  exact hrd
end Go.Proofs.YtgccjgpdjkhpdaaGreat.B
