import Derived.Laws.CopyRow
import Derived.Test.YtgccjgpdjkhpdaaGreatVQ32
import Derived.Test.YtgccjgpdjkhpdaaGreatVQ48
import Derived.Test.YtgccjgpdjkhpdaaGreatVQ50
import Derived.Test.YtgccjgpdjkhpdaaGreatVQ51
import Derived.Test.YtgccjgpdjkhpdaaGreatVQ53
/-! Own texts of this claim, part 52. -/
namespace Go.Proofs.YtgccjgpdjkhpdaaGreat.B
open Go.RowKit Go.Proofs.YtgccjgpdjkhpdaaGreatW.PrintWords Go.Proofs.YtgccjgpdjkhpdaaGreatW.PrintLast Go.Proofs.YtgccjgpdjkhpdaaGreatW.PrintMore
set_option linter.unusedVariables false
set_option linter.unusedSimpArgs false
theorem Byt.app {l k:List Int}(h:Byt l)(h2:Byt k):Byt (l++k):=fun x hx=>(List.mem_append.1 hx).elim (h x) (h2 x)
theorem numSeg_ok (bs:List Nat):∀ (n cnt pos:Nat) (acc ys:List Int) (p:Nat),cnt<=n->numSeg bs pos cnt acc=some (ys,p)->pos<=8*bs.length->Byt acc->ys.length=acc.length+cnt/\pos+3*cnt<=p/\p<=8*bs.length/\Byt ys:=by
 intro n
 induction n with
 | zero=>
  intro cnt pos acc ys p h e hp ha
  obtain rfl:cnt=0:=by omega
  rw [numSeg,if_neg (by omega),if_neg (by omega),if_neg (by omega)] at e
  injection e with e;injection e with e1 e2
  subst e1 e2
  exact⟨rfl,by omega,hp,ha⟩
 | succ n ih=>
  intro cnt pos acc ys p h e hp ha
  rw [numSeg] at e
  by_cases h3:3<=cnt
  ·rw [if_pos h3] at e
   split at e
   ·rename_i hc
    obtain⟨i1,i2,i3,i4⟩:=ih _ _ _ _ _ (by omega) e (by omega) (((ha.app (Byt.one (by omega) (by omega))).app (Byt.one (by omega) (by omega))).app (Byt.one (by omega) (by omega)))
    simp only [List.length_append,List.length_cons,List.length_nil] at i1
    exact⟨by omega,by omega,i3,i4⟩
   ·cases e
  ·rw [if_neg h3] at e
   by_cases h2:cnt=2
   ·rw [if_pos h2] at e
    split at e
    ·rename_i hc
     injection e with e;injection e with e1 e2
     subst e1 e2
     refine⟨by simp only [List.length_append,List.length_cons,List.length_nil];omega,by omega,by omega,(ha.app (Byt.one (by omega) (by omega))).app (Byt.one (by omega) (by omega))⟩
    ·cases e
   ·rw [if_neg h2] at e
    by_cases h1:cnt=1
    ·rw [if_pos h1] at e
     split at e
     ·rename_i hc
      injection e with e;injection e with e1 e2
      subst e1 e2
      refine⟨by simp only [List.length_append,List.length_cons,List.length_nil];omega,by omega,by omega,ha.app (Byt.one (by omega) (by omega))⟩
     ·cases e
    ·rw [if_neg h1] at e
     injection e with e;injection e with e1 e2
     subst e1 e2
     exact⟨by omega,by omega,hp,ha⟩
theorem alCh_byt (n:Nat):0<=alCh n/\alCh n<=255:=by
 by_cases h:n<45
 ·have hl:∀ k:Fin 45,0<=alCh k.val/\alCh k.val<=255:=by decide +kernel
  exact hl ⟨n,h⟩
 ·unfold alCh
  rw [List.getD_eq_getElem?_getD,List.getElem?_eq_none (by show alTab.length<=n;have:alTab.length=45:=rfl;omega)]
  exact⟨by decide,by decide⟩
theorem alSeg_ok (bs:List Nat):∀ (n cnt pos:Nat) (acc ys:List Int) (p:Nat),cnt<=n->alSeg bs pos cnt acc=some (ys,p)->pos<=8*bs.length->Byt acc->ys.length=acc.length+cnt/\pos+3*cnt<=p/\p<=8*bs.length/\Byt ys:=by
 intro n
 induction n with
 | zero=>
  intro cnt pos acc ys p h e hp ha
  obtain rfl:cnt=0:=by omega
  rw [alSeg,if_neg (by omega),if_neg (by omega)] at e
  injection e with e;injection e with e1 e2
  subst e1 e2
  exact⟨rfl,by omega,hp,ha⟩
 | succ n ih=>
  intro cnt pos acc ys p h e hp ha
  rw [alSeg] at e
  by_cases h3:2<=cnt
  ·rw [if_pos h3] at e
   split at e
   ·rename_i hc
    have b1:=alCh_byt (rdBits bs pos 11/45)
    have b2:=alCh_byt (rdBits bs pos 11%45)
    obtain⟨i1,i2,i3,i4⟩:=ih _ _ _ _ _ (by omega) e (by omega) ((ha.app (Byt.one b1.1 b1.2)).app (Byt.one b2.1 b2.2))
    simp only [List.length_append,List.length_cons,List.length_nil] at i1
    exact⟨by omega,by omega,i3,i4⟩
   ·cases e
  ·rw [if_neg h3] at e
   by_cases h1:cnt=1
   ·rw [if_pos h1] at e
    split at e
    ·rename_i hc
     have b1:=alCh_byt (rdBits bs pos 6)
     injection e with e;injection e with e1 e2
     subst e1 e2
     refine⟨by simp only [List.length_append,List.length_cons,List.length_nil];omega,by omega,by omega,ha.app (Byt.one b1.1 b1.2)⟩
    ·cases e
   ·rw [if_neg h1] at e
    injection e with e;injection e with e1 e2
    subst e1 e2
    exact⟨by omega,by omega,hp,ha⟩
def saidR (ws:List Nat)(m p cnt T:Nat):Option (List Int×Nat):=if m=1 then numSeg ws p cnt [] else if m=2 then alSeg ws p cnt [] else if p+8*cnt<=T then some (byteSeg ws p cnt,p+8*cnt) else none
theorem saidR_ok (ws:List Nat)(m p cnt T:Nat)(ys:List Int)(p':Nat)(hT:8*ws.length=T)(hp:p<=T)(h:saidR ws m p cnt T=some (ys,p')):ys.length=cnt/\p+3*cnt<=p'/\p'<=T/\Byt ys:=by
 have h0:Byt []:=fun x hx=>by cases hx
 unfold saidR at h
 split at h
 ·have:=numSeg_ok ws cnt cnt p [] ys p' (Nat.le_refl _) h (by omega) h0
  rw [<- hT]
  simpa using this
 ·split at h
  ·have:=alSeg_ok ws cnt cnt p [] ys p' (Nat.le_refl _) h (by omega) h0
   rw [<- hT]
   simpa using this
  ·split at h
   ·injection h with h;injection h with e1 e2
    subst e1 e2
    refine⟨by simp [byteSeg],by omega,by omega,?_⟩
    intro x hx
    unfold byteSeg at hx
    obtain⟨i,_,rfl⟩:=List.mem_map.1 hx
    have:=rdBits_lt ws (p+8*i) 8
    omega
   ·cases h
def stOf (p:Nat)(segs:List F.S98):PS:=⟨p,flatS segs,segs4 segs,false,-1,-1⟩
theorem flatS_snoc (l:List F.S98)(s:F.S98):flatS (l++[s])=flatS l++s.f1:=by simp [flatS]
theorem rd_more (ws:List Nat)(v p m T:Nat)(segs:List F.S98)(ys:List Int)(p':Nat)(R:Option PS)(hT:8*ws.length=T)(hm:m=1\/m=2\/m=4)(hr:rdBits ws p 4=m)(hc:p+4+cntBits m v<=T)
  (hs:saidR ws m (p+4+cntBits m v) (rdBits ws (p+4) (cntBits m v)) T=some (ys,p')) (hR:Rd ws v (stOf p' (segs++[⟨(m:Int),ys⟩])) R):Rd ws v (stOf p segs) R:=by
 subst hT
 unfold saidR at hs
 rcases hm with rfl | rfl | rfl
 ·rw [if_pos rfl] at hs
  refine Rd.num (stOf p segs) (flatS segs++ys) p' R hr hc ?_ ?_
  ·show numSeg ws (p+4+cntBits 1 v) (rdBits ws (p+4) (cntBits 1 v)) (flatS segs)=_
   rw [numSeg_acc ws _ _ _ (flatS segs) (Nat.le_refl _),hs]
   rfl
  ·have e:stOf p' (segs++[⟨((1:Nat):Int),ys⟩])={ stOf p segs with pos:=p',out:=flatS segs++ys }:=by
    unfold stOf
    rw [flatS_snoc,segs4_skip _ _ (by show ((1:Nat):Int)≠4;decide)]
   rw [<- e]
   exact hR
 ·rw [if_neg (by decide),if_pos rfl] at hs
  refine Rd.al (stOf p segs) (flatS segs++ys) p' R hr hc ?_ ?_
  ·show alSeg ws (p+4+cntBits 2 v) (rdBits ws (p+4) (cntBits 2 v)) (flatS segs)=_
   rw [alSeg_acc ws _ _ _ (flatS segs) (Nat.le_refl _),hs]
   rfl
  ·have e:stOf p' (segs++[⟨((2:Nat):Int),ys⟩])={ stOf p segs with pos:=p',out:=alOut (stOf p segs).fc (stOf p segs).out (flatS segs++ys) }:=by
    unfold stOf
    rw [flatS_snoc,segs4_skip _ _ (by show ((2:Nat):Int)≠4;decide)]
    rfl
   rw [<- e]
   exact hR
 ·rw [if_neg (by decide),if_neg (by decide)] at hs
  split at hs
  ·rename_i hfit
   injection hs with hs;injection hs with e1 e2
   subst e1 e2
   refine Rd.byte (stOf p segs) _ R hr hc rfl hfit ?_
   unfold stOf at hR
   rw [flatS_snoc,segs4_snoc _ _ (show (⟨((4:Nat):Int),byteSeg ws (p+4+cntBits 4 v) (rdBits ws (p+4) (cntBits 4 v))⟩:F.S98).f0=4 from rfl)] at hR
   exact hR
  ·cases hs
theorem rd_bad (ws:List Nat)(v p m T:Nat)(segs:List F.S98)(hT:8*ws.length=T)(hm:m=1\/m=2\/m=4)(hr:rdBits ws p 4=m)(hc:p+4+cntBits m v<=T)
  (hs:saidR ws m (p+4+cntBits m v) (rdBits ws (p+4) (cntBits m v)) T=none):Rd ws v (stOf p segs) none:=by
 subst hT
 unfold saidR at hs
 rcases hm with rfl | rfl | rfl
 ·rw [if_pos rfl] at hs
  refine Rd.numBad (stOf p segs) hr hc ?_
  show numSeg ws (p+4+cntBits 1 v) (rdBits ws (p+4) (cntBits 1 v)) (flatS segs)=_
  rw [numSeg_acc ws _ _ _ (flatS segs) (Nat.le_refl _),hs]
  rfl
 ·rw [if_neg (by decide),if_pos rfl] at hs
  refine Rd.alBad (stOf p segs) hr hc ?_
  show alSeg ws (p+4+cntBits 2 v) (rdBits ws (p+4) (cntBits 2 v)) (flatS segs)=_
  rw [alSeg_acc ws _ _ _ (flatS segs) (Nat.le_refl _),hs]
  rfl
 ·rw [if_neg (by decide),if_neg (by decide)] at hs
  split at hs
  ·cases hs
  ·rename_i hfit
   exact Rd.byteBad (stOf p segs) _ hr hc rfl (by simpa [stOf] using hfit)
theorem said59 (w:World)(q o n c p cnt T m:Nat)(M:Int)(ws:List Nat)(hm:m=1\/m=2\/m=4)(hM:M=(m:Int))(hC:CBits w q o ((streamBits ws).drop p))(hq:q<w.heap.size)(hT:8*ws.length=T)(hn:n+p=T)(hc:n<=c)(hT2:T<=1000000)(hcnt:cnt<=100000) :
  Calls Tryz.prog 59 #[.slice (some ⟨q,o,none⟩) n c,.int .i64 M,.int .i64 (cnt:Int)] w (SaidRes w q T (streamBits ws) (saidR ws m p cnt T)):=by
 subst hM
 unfold saidR
 rcases hm with rfl | rfl | rfl
 ·rw [if_pos rfl]
  exact said59n w q o n c p cnt T ws hC hq hT hn hc hT2 hcnt
 ·rw [if_neg (by decide),if_pos rfl]
  exact said59a w q o n c p cnt T ws hC hq hT hn hc hT2 hcnt
 ·rw [if_neg (by decide),if_neg (by decide)]
  exact said59b w q o n c p cnt T ws hC hq hT hn hc hT2 hcnt
theorem cntBits_range (m v:Nat):8<=cntBits m v/\cntBits m v<=16:=by
 unfold cntBits
 repeat' split
 all_goals exact⟨by decide,by decide⟩
theorem bits_open {w:World}{base T:Nat}{v:Value}{xs:List Bool}(h:BOwn w base v xs)(hn:xs.length=T)(h0:0<T):∃ q c,v=.slice (some ⟨q,0,none⟩) T c/\T<=c/\q<w.heap.size/\CBits w q 0 xs:=by
 subst hn
 obtain⟨hlen,h2⟩:=h
 rcases h2 with⟨_,h3⟩ | ⟨q,c,cs,rfl,hb,hh,hc,hm,hs,ht⟩
 ·omega
 ·refine⟨q,c,rfl,hc,Blk.lt hh,fun i hi=>?_⟩
  rw [Nat.zero_add,Blk.cell hh i]
  have h5:(cs.toList.take xs.length)[i]? = (bools xs)[i]?:=by rw [Nat.mul_one] at ht;rw [ht]
  rw [List.getElem?_take_of_lt hi] at h5
  rw [<- Array.getElem?_toList,h5]
  simp [bools,List.getElem?_map,List.getElem?_eq_getElem hi,List.getD_eq_getElem?_getD]
def SegB (l:List F.S98):Prop:=∀ s∈l,s.f1.length<=10000/\∀ x∈s.f1,0<=x/\x<=255
def ReadRes (w:World)(ws:List Nat)(v:Nat)(e:Ending)(w':World):Prop :=
 Below w.heap.size w w'/\(e=.returned (.tuple #[.slice none 0 0,.bool false,.bool false])\/(e=.returned (.tuple #[.slice none 0 0,.bool false,.bool true])/\Rd ws v (stOf 0 []) none)\/
  ∃ v' segs p B,e=.returned (.tuple #[v',.bool true,.bool true])/\w.heap.size<=B/\Kd.R F.k98 98 w' B (fun k=>B<=k) v' segs/\Rd ws v (stOf 0 []) (some (stOf p segs))/\segs.length<=10000/\SegB segs)
theorem ReadRes.other {w w':World}{ws:List Nat}{v:Nat}(h:Below w.heap.size w w'):ReadRes w ws v (.returned (.tuple #[.slice none 0 0,.bool false,.bool false])) w':=⟨h,.inl rfl⟩
theorem ReadRes.bad {w w':World}{ws:List Nat}{v:Nat}(h:Below w.heap.size w w')(hr:Rd ws v (stOf 0 []) none):ReadRes w ws v (.returned (.tuple #[.slice none 0 0,.bool false,.bool true])) w':=⟨h,.inr (.inl ⟨rfl,hr⟩)⟩
theorem ReadRes.fine {w w':World}{ws:List Nat}{v p:Nat}{v':Value}{segs:List F.S98}{B:Nat}(h:Below w.heap.size w w')(hR:Kd.R F.k98 98 w' B (fun k=>B<=k) v' segs)(hB:w.heap.size<=B)(hr:Rd ws v (stOf 0 []) (some (stOf p segs)))(hl:segs.length<=10000)(hb:SegB segs) :
  ReadRes w ws v (.returned (.tuple #[v',.bool true,.bool true])) w':=⟨h,.inr (.inr ⟨v',segs,p,B,rfl,hB,hR,hr,hl,hb⟩)⟩
set_option maxHeartbeats 8000000 in
set_option maxRecDepth 8000 in
theorem read23 (w:World)(q0 N cN v:Nat)(ws:List Nat)(hD:ByteAt w q0 0 ws)(hq:q0<w.heap.size)(hn:ws.length=N)(h0:0<N)(hN:N<=3000)(hx:AllLt 8 ws)(hv:1<=v/\v<=40) :
  Calls Tryz.prog 23 #[.slice (some ⟨q0,0,none⟩) N cN,.int .i64 (v:Int)] w (ReadRes w ws v):=by
 have k29:=bits29 w q0 N cN ws hD hq hn (by omega) hx
 obtain⟨T,hT⟩:∃ T,8*N=T:=⟨_,rfl⟩
 have HT:=Aside0.mk (show 8*ws.length=T by rw [hn];exact hT)
 have hT5:0<T/\T<=24000:=by omega
 have HBL:=Aside0.mk (show (streamBits ws).length=T by rw [streamBits_len];exact HT.out)
 have K58:=Aside0.mk (fun W (m:Nat) (x:Int) (h1:m=1\/m=2\/m=4) (h2:x=(m:Int))=>cnt58 W m v x h1 h2 hv)
 clear hD hq hn h0 hN hx hv hT
 go_enter Tryz.func23,Tryz.ntmps23
 go_wp2_with fail
 refine k29.mono ?_
 rintro e w1 ⟨v1,rfl,ho1,hb1⟩
 obtain⟨q,c,rfl,hc1,hq1,hcb1⟩:=bits_open ho1 HBL.out hT5.1
 have HB1:=Aside0.mk hb1
 have HQ:=Aside0.mk hq1
 have HCB:=Aside0.mk (show CBits w1 q 0 ((streamBits ws).drop 0) from hcb1)
 have HC1:=Aside0.mk hc1
 clear k29 ho1 hb1 hq1 hcb1 hc1
 go_wp2_with fail
 go_loopw [7,8] (fun vl vo wr=>∃ (o c n p:Nat) (segs:List F.S98),vl=.slice (some ⟨q,o,none⟩) n c/\n<=24000/\Aside0 (n<=c)/\Aside0 (n+p=T)/\Aside0 (Kd.R F.k98 98 wr w1.heap.size (fun k=>w1.heap.size<=k) vo segs)/\Aside0 (CBits wr q o ((streamBits ws).drop p))/\Aside0 (Below w1.heap.size w1 wr)/\
  Aside0 (4*segs.length<=p)/\Aside0 (SegB segs)/\Aside0 (∀ R,Rd ws v (stOf p segs) R->Rd ws v (stOf 0 []) R)) (fun vl _ _=>(sliceLen vl).toNat)
 case atStart=>exact⟨0,c,T,0,[],rfl,by omega,HC1,⟨rfl⟩,⟨Kd.R_nil _ _ _ _ _⟩,HCB,⟨Below.refl _ _⟩,⟨Nat.le_refl _⟩,⟨fun s hs=>by cases hs⟩,⟨fun R h=>h⟩⟩
 case round=>
  clear HCB HC1
  obtain⟨o,c,n,p,segs,rfl,hn4,HCC,HN,HO,HC,HB,HSL,HSB,HRD⟩:=hrel
  obtain⟨Ao,co,rfl,ho1,ho2⟩:=Kd.R_reads HO.out
  clear ho1 ho2
  have HSL4:=Aside0.mk (show segs.length<=10000 by have:=HSL.out;have:=HN.out;have:=hT5.2;omega)
  have HBW:=Aside0.mk (HB1.out.trans (HB.out.mono HB1.out.size))
  obtain⟨ns,hns⟩:∃ ns,segs.length=ns:=⟨_,rfl⟩
  rw [hns] at HO
  have HNS:=Aside0.mk hns
  rw [hns]
  clear hns
  by_cases h4:4<=n
  ·have kt:=takeAt wr q o n c p 4 T 4 rfl ws HC.out HT.out HN.out HCC.out (by omega) (by omega) h4
   obtain⟨m,hm⟩:∃ m,rdBits ws p 4=m:=⟨_,rfl⟩
   have hm16:m<16:=by rw [<- hm];exact rdBits_lt _ _ _
   rw [hm] at kt
   have HM:=Aside0.mk hm
   clear hm
   by_cases hm0:m=0
   ·subst hm0
    go_wp2_with fail
    refine kt.mono ?_
    rintro e w2 ⟨o1,c1,n1,rfl,hn1,hc1,hC1,hd1⟩
    have HB2:=Aside0.mk (HBW.out.trans (hd1.below.mono HBW.out.size))
    have HO2:=Aside0.mk (Kd.R_below HO.out hd1.below)
    clear hC1 hd1
    go_wp2_with fail
    go_ret3
    exact ReadRes.fine (p:=p+4) HB2.out HO2.out HB1.out.size (HRD.out _ (Rd.stop (stOf p segs) (by show p+4<=_;have:=HT.out;have:=HN.out;omega) HM.out)) HSL4.out HSB.out
   ·by_cases hmm:m=1\/m=2\/m=4
    ·have HMM:=Aside0.mk hmm
     have K58m:=Aside0.mk (fun W=>K58.out W m (m:Int) hmm rfl)
     obtain⟨cb,hcb⟩:∃ cb,cntBits m v=cb:=⟨_,rfl⟩
     have hcb16:8<=cb/\cb<=16:=by rw [<- hcb];exact cntBits_range m v
     rw [hcb] at K58m
     have HCBT:=Aside0.mk hcb
     clear hcb
     rcases hmm with rfl | rfl | rfl
     ·skip
      clear hm0 hm16
      go_wp2_with fail
      refine kt.mono ?_
      rintro e w2 ⟨o1,c1,n1,rfl,hn1,hc1,hC1,hd1⟩
      have HL2:=Aside0.mk hd1.below
      have HC2:=Aside0.mk hC1
      clear hC1 hd1 kt
      go_wp2_with fail
      refine (K58m.out w2).mono ?_
      rintro e w3 ⟨rfl,hb3⟩
      have HL3:=Aside0.mk (HL2.out.trans (hb3.mono HL2.out.size))
      have HC3:=Aside0.mk (HC2.out.below hb3 (Nat.lt_of_lt_of_le HQ.out (Nat.le_trans HB.out.size HL2.out.size)))
      clear hb3 HC2
      by_cases hs:cb<=n1
      ·have kt2:=takeAt w3 q o1 n1 c1 (p+4) cb T (cb:Int) rfl ws HC3.out HT.out (by have:=HN.out;omega) hc1 (by omega) (by omega) hs
       obtain⟨cnt,hcnt⟩:∃ cnt,rdBits ws (p+4) cb=cnt:=⟨_,rfl⟩
       have hcnt2:cnt<65536:=by rw [<- hcnt];exact Nat.lt_of_lt_of_le (rdBits_lt _ _ _) (Nat.pow_le_pow_right (by omega) hcb16.2)
       rw [hcnt] at kt2
       have HCNT:=Aside0.mk hcnt
       clear hcnt
       go_wp2_with fail
       refine kt2.mono ?_
       rintro e w4 ⟨o2,c2,n2,rfl,hn2,hc2,hC4,hd4⟩
       have HL4:=Aside0.mk (HL3.out.trans (hd4.below.mono HL3.out.size))
       have HB4:=Aside0.mk (HB.out.trans (HL4.out.mono HB.out.size))
       have k59:=said59 w4 q o2 n2 c2 (p+4+cb) cnt T 1 1 ws (by decide) rfl hC4 (Nat.lt_of_lt_of_le HQ.out HB4.out.size) HT.out (by have:=HN.out;omega) hc2 (by omega) (by omega)
       have HSD:=Aside0.mk (fun ys p'=>saidR_ok ws 1 (p+4+cb) cnt T ys p' HT.out (by have:=HN.out;omega))
       have HMR:=Aside0.mk (fun ys p' R (hs2:saidR ws 1 (p+4+cb) cnt T=some (ys,p'))=>rd_more ws v p 1 T segs ys p' R HT.out (by decide) HM.out (by rw [HCBT.out];have:=HN.out;omega) (by rw [HCBT.out,HCNT.out];exact hs2))
       have HBR:=Aside0.mk (fun (hs2:saidR ws 1 (p+4+cb) cnt T=none)=>rd_bad ws v p 1 T segs HT.out (by decide) HM.out (by rw [HCBT.out];have:=HN.out;omega) (by rw [HCBT.out,HCNT.out];exact hs2))
       clear hC4 hd4 kt2 HC3
       cases hR:saidR ws 1 (p+4+cb) cnt T with
       | none=>
        rw [hR] at k59
        have HR2:=Aside0.mk hR
        clear hR
        go_wp2_with fail
        refine k59.mono ?_
        rintro e w5 ⟨rfl,hb5⟩
        have HB5:=Aside0.mk ((HBW.out.trans (HL4.out.mono HBW.out.size)).trans (hb5.mono (Nat.le_trans HBW.out.size HL4.out.size)))
        clear hb5
        go_wp2_with fail
        go_ret3
        exact ReadRes.bad HB5.out (HRD.out _ (HBR.out HR2.out))
       | some r=>
        obtain⟨ys,p'⟩:=r
        rw [hR] at k59
        obtain⟨s1,s2,s3,s4⟩:=HSD.out ys p' hR
        have HRN:=Aside0.mk (fun R h=>HRD.out R (HMR.out ys p' R hR h))
        have HBY:=Aside0.mk s4
        clear hR
        go_wp2_with fail
        refine k59.mono ?_
        rintro e w5 ⟨vt,o3,c3,n3,rfl,hn3,hc3,ho5,hC5,hb5⟩
        obtain⟨A2,c2',hvt⟩:=own_slice ho5
        have HLY:=Aside0.mk s1
        rw [s1] at ho5 hvt
        subst hvt
        have HOY:=Aside0.mk ho5
        have HC5:=Aside0.mk hC5
        have HL5:=Aside0.mk (HL4.out.trans (hb5.mono HL4.out.size))
        have HB5:=Aside0.mk (HB4.out.trans (hb5.mono HB4.out.size))
        have HO5:=Aside0.mk (Kd.R_below HO.out HL5.out)
        have HNEW:=Aside0.mk (show ∀ k',(Value.slice A2 cnt c2').ownBlock=some k'->w1.heap.size<=k'/\some k'≠(Value.slice Ao ns co).ownBlock from fun k' hk'=>⟨Nat.le_trans HB4.out.size (own_base HOY.out k' hk'),fun he=>by have h1:=Kd.R_lt HO.out k' he.symm;have h2:=own_base HOY.out k' hk';have h3:=HL4.out.size;omega⟩)
        have HMA:=Aside0.mk (tseg_made 1 HOY.out HLY.out HB4.out.size)
        have HQN:=Aside0.mk (show some q≠(Value.slice Ao ns co).ownBlock from fun he=>by have h1:=Kd.R_base HO.out q he.symm;have h2:=HQ.out;omega)
        have HSB2:=Aside0.mk (show SegB (segs++[⟨1,ys⟩]) from fun s hs=>by
         rcases List.mem_append.1 hs with h | h
         ·exact HSB.out s h
         ·rw [List.mem_singleton.1 h]
          exact⟨by show ys.length<=10000;rw [HLY.out];have:=hT5.2;omega,HBY.out⟩)
        clear ho5 hC5 hb5 k59 s1 s4
        go_wp2_with ((with_reducible refine gate_builtin (b:=.append) (xs:=#[.tmp 67,.tmp 71]) rfl ?_);at_builtin;refine Kd.R_append F.k98 (w0:=w1) w1.heap.size rfl (.tmp 67) (.tmp 71) 38 98 (.agg #[.int .i64 0,.slice none 0 0]) 32 rfl Tryz.underlying38 info98s rfl (by decide) (by decide) (.slice Ao ns co) segs ⟨1,ys⟩ [.int .i64 1,.slice A2 cnt c2'] (fun k=>w1.heap.size<=k) (fun k=>(Value.slice A2 cnt c2').ownBlock=some k) rfl rfl HMA.out HNEW.out (fun k hk=>Nat.le_trans HB5.out.size hk) HO5.out HB5.out HB5.out.size ?bL ?_;(case bL=>(have:=HSL4.out;omega));intro v9 w9 hr9 hb9 hg9 hat9;have HR9:=Aside0.mk hr9;have HB9:=Aside0.mk hb9;have HC9:=Aside0.mk (HC5.out.grow hg9 HQN.out);clear hr9 hb9 hg9 hat9)
        go_roundw
        case rel=>exact⟨o3,c3,n3,p',segs++[⟨1,ys⟩],rfl,by omega,⟨hc3⟩,⟨hn3⟩,HR9,HC9,HB9,⟨by rw [List.length_append];have:=HSL.out;simp only [List.length_cons,List.length_nil];omega⟩,HSB2,HRN⟩
        case measure=>simp [sliceLen]<;>(have:=HN.out;omega)
      ·have kt2:=takeNo w3 q o1 n1 c1 cb (cb:Int) rfl (by omega)
       go_wp2_with fail
       refine kt2.mono ?_
       rintro e w4 ⟨rfl,rfl⟩
       have HB4:=Aside0.mk (HBW.out.trans (HL3.out.mono HBW.out.size))
       go_wp2_with fail
       go_ret3
       exact ReadRes.bad HB4.out (HRD.out _ (Rd.short (stOf p segs) 1 (by show p+4<=_;have:=HT.out;have:=HN.out;omega) HM.out (by decide) (by show _<p+4+_;rw [HCBT.out];have:=HT.out;have:=HN.out;omega)))
     ·skip
      clear hm0 hm16
      go_wp2_with fail
      refine kt.mono ?_
      rintro e w2 ⟨o1,c1,n1,rfl,hn1,hc1,hC1,hd1⟩
      have HL2:=Aside0.mk hd1.below
      have HC2:=Aside0.mk hC1
      clear hC1 hd1 kt
      go_wp2_with fail
      refine (K58m.out w2).mono ?_
      rintro e w3 ⟨rfl,hb3⟩
      have HL3:=Aside0.mk (HL2.out.trans (hb3.mono HL2.out.size))
      have HC3:=Aside0.mk (HC2.out.below hb3 (Nat.lt_of_lt_of_le HQ.out (Nat.le_trans HB.out.size HL2.out.size)))
      clear hb3 HC2
      by_cases hs:cb<=n1
      ·have kt2:=takeAt w3 q o1 n1 c1 (p+4) cb T (cb:Int) rfl ws HC3.out HT.out (by have:=HN.out;omega) hc1 (by omega) (by omega) hs
       obtain⟨cnt,hcnt⟩:∃ cnt,rdBits ws (p+4) cb=cnt:=⟨_,rfl⟩
       have hcnt2:cnt<65536:=by rw [<- hcnt];exact Nat.lt_of_lt_of_le (rdBits_lt _ _ _) (Nat.pow_le_pow_right (by omega) hcb16.2)
       rw [hcnt] at kt2
       have HCNT:=Aside0.mk hcnt
       clear hcnt
       go_wp2_with fail
       refine kt2.mono ?_
       rintro e w4 ⟨o2,c2,n2,rfl,hn2,hc2,hC4,hd4⟩
       have HL4:=Aside0.mk (HL3.out.trans (hd4.below.mono HL3.out.size))
       have HB4:=Aside0.mk (HB.out.trans (HL4.out.mono HB.out.size))
       have k59:=said59 w4 q o2 n2 c2 (p+4+cb) cnt T 2 2 ws (by decide) rfl hC4 (Nat.lt_of_lt_of_le HQ.out HB4.out.size) HT.out (by have:=HN.out;omega) hc2 (by omega) (by omega)
       have HSD:=Aside0.mk (fun ys p'=>saidR_ok ws 2 (p+4+cb) cnt T ys p' HT.out (by have:=HN.out;omega))
       have HMR:=Aside0.mk (fun ys p' R (hs2:saidR ws 2 (p+4+cb) cnt T=some (ys,p'))=>rd_more ws v p 2 T segs ys p' R HT.out (by decide) HM.out (by rw [HCBT.out];have:=HN.out;omega) (by rw [HCBT.out,HCNT.out];exact hs2))
       have HBR:=Aside0.mk (fun (hs2:saidR ws 2 (p+4+cb) cnt T=none)=>rd_bad ws v p 2 T segs HT.out (by decide) HM.out (by rw [HCBT.out];have:=HN.out;omega) (by rw [HCBT.out,HCNT.out];exact hs2))
       clear hC4 hd4 kt2 HC3
       cases hR:saidR ws 2 (p+4+cb) cnt T with
       | none=>
        rw [hR] at k59
        have HR2:=Aside0.mk hR
        clear hR
        go_wp2_with fail
        refine k59.mono ?_
        rintro e w5 ⟨rfl,hb5⟩
        have HB5:=Aside0.mk ((HBW.out.trans (HL4.out.mono HBW.out.size)).trans (hb5.mono (Nat.le_trans HBW.out.size HL4.out.size)))
        clear hb5
        go_wp2_with fail
        go_ret3
        exact ReadRes.bad HB5.out (HRD.out _ (HBR.out HR2.out))
       | some r=>
        obtain⟨ys,p'⟩:=r
        rw [hR] at k59
        obtain⟨s1,s2,s3,s4⟩:=HSD.out ys p' hR
        have HRN:=Aside0.mk (fun R h=>HRD.out R (HMR.out ys p' R hR h))
        have HBY:=Aside0.mk s4
        clear hR
        go_wp2_with fail
        refine k59.mono ?_
        rintro e w5 ⟨vt,o3,c3,n3,rfl,hn3,hc3,ho5,hC5,hb5⟩
        obtain⟨A2,c2',hvt⟩:=own_slice ho5
        have HLY:=Aside0.mk s1
        rw [s1] at ho5 hvt
        subst hvt
        have HOY:=Aside0.mk ho5
        have HC5:=Aside0.mk hC5
        have HL5:=Aside0.mk (HL4.out.trans (hb5.mono HL4.out.size))
        have HB5:=Aside0.mk (HB4.out.trans (hb5.mono HB4.out.size))
        have HO5:=Aside0.mk (Kd.R_below HO.out HL5.out)
        have HNEW:=Aside0.mk (show ∀ k',(Value.slice A2 cnt c2').ownBlock=some k'->w1.heap.size<=k'/\some k'≠(Value.slice Ao ns co).ownBlock from fun k' hk'=>⟨Nat.le_trans HB4.out.size (own_base HOY.out k' hk'),fun he=>by have h1:=Kd.R_lt HO.out k' he.symm;have h2:=own_base HOY.out k' hk';have h3:=HL4.out.size;omega⟩)
        have HMA:=Aside0.mk (tseg_made 2 HOY.out HLY.out HB4.out.size)
        have HQN:=Aside0.mk (show some q≠(Value.slice Ao ns co).ownBlock from fun he=>by have h1:=Kd.R_base HO.out q he.symm;have h2:=HQ.out;omega)
        have HSB2:=Aside0.mk (show SegB (segs++[⟨2,ys⟩]) from fun s hs=>by
         rcases List.mem_append.1 hs with h | h
         ·exact HSB.out s h
         ·rw [List.mem_singleton.1 h]
          exact⟨by show ys.length<=10000;rw [HLY.out];have:=hT5.2;omega,HBY.out⟩)
        clear ho5 hC5 hb5 k59 s1 s4
        go_wp2_with ((with_reducible refine gate_builtin (b:=.append) (xs:=#[.tmp 67,.tmp 71]) rfl ?_);at_builtin;refine Kd.R_append F.k98 (w0:=w1) w1.heap.size rfl (.tmp 67) (.tmp 71) 38 98 (.agg #[.int .i64 0,.slice none 0 0]) 32 rfl Tryz.underlying38 info98s rfl (by decide) (by decide) (.slice Ao ns co) segs ⟨2,ys⟩ [.int .i64 2,.slice A2 cnt c2'] (fun k=>w1.heap.size<=k) (fun k=>(Value.slice A2 cnt c2').ownBlock=some k) rfl rfl HMA.out HNEW.out (fun k hk=>Nat.le_trans HB5.out.size hk) HO5.out HB5.out HB5.out.size ?bL ?_;(case bL=>(have:=HSL4.out;omega));intro v9 w9 hr9 hb9 hg9 hat9;have HR9:=Aside0.mk hr9;have HB9:=Aside0.mk hb9;have HC9:=Aside0.mk (HC5.out.grow hg9 HQN.out);clear hr9 hb9 hg9 hat9)
        go_roundw
        case rel=>exact⟨o3,c3,n3,p',segs++[⟨2,ys⟩],rfl,by omega,⟨hc3⟩,⟨hn3⟩,HR9,HC9,HB9,⟨by rw [List.length_append];have:=HSL.out;simp only [List.length_cons,List.length_nil];omega⟩,HSB2,HRN⟩
        case measure=>simp [sliceLen]<;>(have:=HN.out;omega)
      ·have kt2:=takeNo w3 q o1 n1 c1 cb (cb:Int) rfl (by omega)
       go_wp2_with fail
       refine kt2.mono ?_
       rintro e w4 ⟨rfl,rfl⟩
       have HB4:=Aside0.mk (HBW.out.trans (HL3.out.mono HBW.out.size))
       go_wp2_with fail
       go_ret3
       exact ReadRes.bad HB4.out (HRD.out _ (Rd.short (stOf p segs) 2 (by show p+4<=_;have:=HT.out;have:=HN.out;omega) HM.out (by decide) (by show _<p+4+_;rw [HCBT.out];have:=HT.out;have:=HN.out;omega)))
     ·skip
      clear hm0 hm16
      go_wp2_with fail
      refine kt.mono ?_
      rintro e w2 ⟨o1,c1,n1,rfl,hn1,hc1,hC1,hd1⟩
      have HL2:=Aside0.mk hd1.below
      have HC2:=Aside0.mk hC1
      clear hC1 hd1 kt
      go_wp2_with fail
      refine (K58m.out w2).mono ?_
      rintro e w3 ⟨rfl,hb3⟩
      have HL3:=Aside0.mk (HL2.out.trans (hb3.mono HL2.out.size))
      have HC3:=Aside0.mk (HC2.out.below hb3 (Nat.lt_of_lt_of_le HQ.out (Nat.le_trans HB.out.size HL2.out.size)))
      clear hb3 HC2
      by_cases hs:cb<=n1
      ·have kt2:=takeAt w3 q o1 n1 c1 (p+4) cb T (cb:Int) rfl ws HC3.out HT.out (by have:=HN.out;omega) hc1 (by omega) (by omega) hs
       obtain⟨cnt,hcnt⟩:∃ cnt,rdBits ws (p+4) cb=cnt:=⟨_,rfl⟩
       have hcnt2:cnt<65536:=by rw [<- hcnt];exact Nat.lt_of_lt_of_le (rdBits_lt _ _ _) (Nat.pow_le_pow_right (by omega) hcb16.2)
       rw [hcnt] at kt2
       have HCNT:=Aside0.mk hcnt
       clear hcnt
       go_wp2_with fail
       refine kt2.mono ?_
       rintro e w4 ⟨o2,c2,n2,rfl,hn2,hc2,hC4,hd4⟩
       have HL4:=Aside0.mk (HL3.out.trans (hd4.below.mono HL3.out.size))
       have HB4:=Aside0.mk (HB.out.trans (HL4.out.mono HB.out.size))
       have k59:=said59 w4 q o2 n2 c2 (p+4+cb) cnt T 4 4 ws (by decide) rfl hC4 (Nat.lt_of_lt_of_le HQ.out HB4.out.size) HT.out (by have:=HN.out;omega) hc2 (by omega) (by omega)
       have HSD:=Aside0.mk (fun ys p'=>saidR_ok ws 4 (p+4+cb) cnt T ys p' HT.out (by have:=HN.out;omega))
       have HMR:=Aside0.mk (fun ys p' R (hs2:saidR ws 4 (p+4+cb) cnt T=some (ys,p'))=>rd_more ws v p 4 T segs ys p' R HT.out (by decide) HM.out (by rw [HCBT.out];have:=HN.out;omega) (by rw [HCBT.out,HCNT.out];exact hs2))
       have HBR:=Aside0.mk (fun (hs2:saidR ws 4 (p+4+cb) cnt T=none)=>rd_bad ws v p 4 T segs HT.out (by decide) HM.out (by rw [HCBT.out];have:=HN.out;omega) (by rw [HCBT.out,HCNT.out];exact hs2))
       clear hC4 hd4 kt2 HC3
       cases hR:saidR ws 4 (p+4+cb) cnt T with
       | none=>
        rw [hR] at k59
        have HR2:=Aside0.mk hR
        clear hR
        go_wp2_with fail
        refine k59.mono ?_
        rintro e w5 ⟨rfl,hb5⟩
        have HB5:=Aside0.mk ((HBW.out.trans (HL4.out.mono HBW.out.size)).trans (hb5.mono (Nat.le_trans HBW.out.size HL4.out.size)))
        clear hb5
        go_wp2_with fail
        go_ret3
        exact ReadRes.bad HB5.out (HRD.out _ (HBR.out HR2.out))
       | some r=>
        obtain⟨ys,p'⟩:=r
        rw [hR] at k59
        obtain⟨s1,s2,s3,s4⟩:=HSD.out ys p' hR
        have HRN:=Aside0.mk (fun R h=>HRD.out R (HMR.out ys p' R hR h))
        have HBY:=Aside0.mk s4
        clear hR
        go_wp2_with fail
        refine k59.mono ?_
        rintro e w5 ⟨vt,o3,c3,n3,rfl,hn3,hc3,ho5,hC5,hb5⟩
        obtain⟨A2,c2',hvt⟩:=own_slice ho5
        have HLY:=Aside0.mk s1
        rw [s1] at ho5 hvt
        subst hvt
        have HOY:=Aside0.mk ho5
        have HC5:=Aside0.mk hC5
        have HL5:=Aside0.mk (HL4.out.trans (hb5.mono HL4.out.size))
        have HB5:=Aside0.mk (HB4.out.trans (hb5.mono HB4.out.size))
        have HO5:=Aside0.mk (Kd.R_below HO.out HL5.out)
        have HNEW:=Aside0.mk (show ∀ k',(Value.slice A2 cnt c2').ownBlock=some k'->w1.heap.size<=k'/\some k'≠(Value.slice Ao ns co).ownBlock from fun k' hk'=>⟨Nat.le_trans HB4.out.size (own_base HOY.out k' hk'),fun he=>by have h1:=Kd.R_lt HO.out k' he.symm;have h2:=own_base HOY.out k' hk';have h3:=HL4.out.size;omega⟩)
        have HMA:=Aside0.mk (tseg_made 4 HOY.out HLY.out HB4.out.size)
        have HQN:=Aside0.mk (show some q≠(Value.slice Ao ns co).ownBlock from fun he=>by have h1:=Kd.R_base HO.out q he.symm;have h2:=HQ.out;omega)
        have HSB2:=Aside0.mk (show SegB (segs++[⟨4,ys⟩]) from fun s hs=>by
         rcases List.mem_append.1 hs with h | h
         ·exact HSB.out s h
         ·rw [List.mem_singleton.1 h]
          exact⟨by show ys.length<=10000;rw [HLY.out];have:=hT5.2;omega,HBY.out⟩)
        clear ho5 hC5 hb5 k59 s1 s4
        go_wp2_with ((with_reducible refine gate_builtin (b:=.append) (xs:=#[.tmp 67,.tmp 71]) rfl ?_);at_builtin;refine Kd.R_append F.k98 (w0:=w1) w1.heap.size rfl (.tmp 67) (.tmp 71) 38 98 (.agg #[.int .i64 0,.slice none 0 0]) 32 rfl Tryz.underlying38 info98s rfl (by decide) (by decide) (.slice Ao ns co) segs ⟨4,ys⟩ [.int .i64 4,.slice A2 cnt c2'] (fun k=>w1.heap.size<=k) (fun k=>(Value.slice A2 cnt c2').ownBlock=some k) rfl rfl HMA.out HNEW.out (fun k hk=>Nat.le_trans HB5.out.size hk) HO5.out HB5.out HB5.out.size ?bL ?_;(case bL=>(have:=HSL4.out;omega));intro v9 w9 hr9 hb9 hg9 hat9;have HR9:=Aside0.mk hr9;have HB9:=Aside0.mk hb9;have HC9:=Aside0.mk (HC5.out.grow hg9 HQN.out);clear hr9 hb9 hg9 hat9)
        go_roundw
        case rel=>exact⟨o3,c3,n3,p',segs++[⟨4,ys⟩],rfl,by omega,⟨hc3⟩,⟨hn3⟩,HR9,HC9,HB9,⟨by rw [List.length_append];have:=HSL.out;simp only [List.length_cons,List.length_nil];omega⟩,HSB2,HRN⟩
        case measure=>simp [sliceLen]<;>(have:=HN.out;omega)
      ·have kt2:=takeNo w3 q o1 n1 c1 cb (cb:Int) rfl (by omega)
       go_wp2_with fail
       refine kt2.mono ?_
       rintro e w4 ⟨rfl,rfl⟩
       have HB4:=Aside0.mk (HBW.out.trans (HL3.out.mono HBW.out.size))
       go_wp2_with fail
       go_ret3
       exact ReadRes.bad HB4.out (HRD.out _ (Rd.short (stOf p segs) 4 (by show p+4<=_;have:=HT.out;have:=HN.out;omega) HM.out (by decide) (by show _<p+4+_;rw [HCBT.out];have:=HT.out;have:=HN.out;omega)))
    ·have hm1:m≠1:=fun h=>hmm (.inl h)
     have hm2:m≠2:=fun h=>hmm (.inr (.inl h))
     have hm4:m≠4:=fun h=>hmm (.inr (.inr h))
     have e1:((m:Int) != 1)=true:=by simp;omega
     have e2:((m:Int) != 2)=true:=by simp;omega
     have e4:((m:Int) != 4)=true:=by simp;omega
     clear hmm
     go_wp2_with fail
     refine kt.mono ?_
     rintro e w2 ⟨o1,c1,n1,rfl,hn1,hc1,hC1,hd1⟩
     have HB2:=Aside0.mk (HBW.out.trans (hd1.below.mono HBW.out.size))
     clear hC1 hd1
     go_wp2_with fail
     go_ret3
     exact ReadRes.other HB2.out
  ·go_wp2_with fail
   go_ret3
   exact ReadRes.fine (p:=p) HBW.out HO.out HB1.out.size (HRD.out _ (Rd.done (stOf p segs) (by show p<=_;have:=HT.out;have:=HN.out;omega) (by show _<p+4;have:=HT.out;have:=HN.out;omega))) HSL4.out HSB.out
theorem roomD_3000 (v l:Nat)(hv:1<=v/\v<=40)(hl:l<4):roomD v l<=3000:=by
 have h:∀ v:Fin 40,∀ l:Fin 4,roomD (v.val+1) l.val<=3000:=by decide +kernel
 have:=h ⟨v-1,by omega⟩ ⟨l,hl⟩
 simp only [show v-1+1=v by omega] at this
 exact this
structure BytesIn (w:World)(A:Option Addr)(n c:Nat)(xs:List Int):Prop where
 len:xs.length=n
 cap:n<=c
 byt:Byt xs
 at_:(A=none/\n=0/\c=0)\/∃ ad,A=some ad/\∀ j,j<n->w.cell? (ad.add j)=some (.int .u8 (xs.getD j 0))
theorem bytes_open {H:Type}{enc:TypeId×Value->H}{P:Program}{w:World}{base:Nat}{held:Bool}{t q:TypeId}{a:Option Addr}{len cap:Nat}{x:DataW H×List MemPlace}
  (ht:P.underlying t=some (.slice q)) (hq:P.underlying q=some (.int .u8)) (cq:P.cellsOf q=1)
  (h:∃ fuel,DataW.trod enc P w base (fun _=>true) held fuel t [.slice a len cap]=some x):∃ xs:List Int,BytesIn w a len cap xs:=by
 obtain⟨fuel,h⟩:=h
 rcases Go.ChangeShapes.open_ints ht hq cq h with⟨k1,_⟩ | ⟨a',l',c',zs,k1,_,k3,k4,k5,_,k7,k8⟩
 ·simp at k1
  obtain⟨rfl,rfl,rfl⟩:=k1
  exact⟨[],⟨rfl,Nat.le_refl _,(fun x hx=>by cases hx),.inl ⟨rfl,rfl,rfl⟩⟩⟩
 ·simp at k1
  obtain⟨rfl,rfl,rfl⟩:=k1
  simp only [if_true] at k5
  have hl2:(zs.take len).length=len:=by rw [List.length_take];omega
  refine⟨zs.take len,⟨hl2,k3,fun y hy=>u8_wf (k8 y (List.mem_of_mem_take hy)),.inr ⟨a',rfl,fun j hj=>?_⟩⟩⟩
  rw [k7 j (by omega),List.getD_eq_getElem?_getD,List.getD_eq_getElem?_getD,List.getElem?_take_of_lt hj]
def padTo (xs:List Int)(n:Nat):List Nat:=(xs.take n).map Int.toNat++List.replicate (n-min xs.length n) 0
theorem padTo_len (xs:List Int)(n:Nat):(padTo xs n).length=n:=by
 unfold padTo
 simp
 omega
theorem padTo_lt (xs:List Int)(n:Nat)(h:Byt xs):AllLt 8 (padTo xs n):=by
 intro x hx
 unfold padTo at hx
 rcases List.mem_append.1 hx with h1 | h1
 ·obtain⟨y,hy,rfl⟩:=List.mem_map.1 h1
  obtain⟨h2,h3⟩:=h y (List.mem_of_mem_take hy)
  show y.toNat<256
  omega
 ·rw [(List.mem_replicate.1 h1).2]
  exact Nat.two_pow_pos 8
theorem turn_row5 (w:World)(g:Nat)(cs:Array Value):Turn w (w.setRow g cs) g:=⟨rfl,rfl,rfl,by simp [World.setRow],fun k hk=>by
 unfold World.setRow
 simp [Array.getElem?_modify]
 intro h
 exact absurd h.symm hk⟩
theorem copy_u8 (w:World)(gs N:Nat)(A:Option Addr)(n c:Nat)(xs:List Int)(hB:UBlk w gs (List.replicate N 0))(hS:BytesIn w A n c xs) :
  ∃ w' k,(Builtin.copy_ #[26,26] 3 #[.slice (some ⟨gs,0,none⟩) N N,.slice A n c]).run Tryz.prog w=.ok (.int .i64 k) w'/\UBlk w' gs (padTo xs N)/\Turn w w' gs:=by
 obtain⟨i,hi,_,hs,_⟩:=info_parts F.info5
 rcases hS.at_ with⟨rfl,rfl,rfl⟩ | ⟨ad,rfl,hc⟩
 ·have hx:xs=[]:=List.eq_nil_of_length_eq_zero hS.len
  subst hx
  refine⟨w,0,run_copy_nil (P:=Tryz.prog) w 26 26 3 5 ⟨gs,0,none⟩ N N Tryz.underlying26 (by rw [hi];rfl),?_,Turn.refl _ _⟩
  unfold padTo
  simpa using hB
 ·have hl:(nums .u8 (xs.take N)).length=min n N:=by simp [nums,hS.len];omega
  have h:=run_copy_row (P:=Tryz.prog) w 26 26 3 5 gs 0 N N ad n c (nums .u8 (ints (List.replicate N 0))).toArray 5 (nums .u8 (xs.take N)) Tryz.underlying26 (by rw [hi];simp [hs]) hB (by rw [hl]) ?_ (by rw [hl];simp [nums,ints]<;>omega) (by intro v hv;unfold nums at hv;obtain⟨a,_,rfl⟩:=List.mem_map.1 hv;rfl)
  ·refine⟨_,_,h,?_,turn_row5 _ _ _⟩
   unfold UBlk Blk
   have e0:ints ((xs.take N).map Int.toNat)=xs.take N:=by
    unfold ints
    rw [List.map_map]
    conv=>rhs;rw [<- List.map_id (xs.take N)]
    apply List.map_congr_left
    intro y hy
    have:=(hS.byt y (List.mem_of_mem_take hy)).1
    show ((y.toNat:Nat):Int)=y
    omega
   have e:(List.take 0 (nums .u8 (ints (List.replicate N 0))).toArray.toList++nums .u8 (xs.take N)++List.drop (0+(nums .u8 (xs.take N)).length) (nums .u8 (ints (List.replicate N 0))).toArray.toList)=nums .u8 (ints (padTo xs N)):=by
    rw [hl]
    unfold padTo
    rw [show ints ((xs.take N).map Int.toNat++List.replicate (N-min xs.length N) 0)=ints ((xs.take N).map Int.toNat)++ints (List.replicate (N-min xs.length N) 0) by simp [ints],e0,hS.len]
    simp [nums,ints]
   rw [e]
   unfold World.setRow
   have hB':w.heap[gs]? = some (.cells (nums .u8 (ints (List.replicate N 0))).toArray 5 (0,0)):=hB
   simp [Array.getElem?_modify,hB']
  ·intro j v hv
   have hj:j<min n N:=by
    have:=(List.getElem?_eq_some_iff.1 hv).1
    rwa [hl] at this
   rw [hc j (by omega),<- hv]
   simp [nums,List.getElem?_take,show j<N by omega]
   rw [List.getElem?_eq_getElem (show j<xs.length by rw [hS.len];omega)]
   rfl
set_option maxHeartbeats 8000000 in
set_option maxRecDepth 8000 in
theorem any_law (w:World)(A:Option Addr)(c n:Nat)(xs:List Int)(a b m:Nat)(hS:BytesIn w A n c xs)(ha:a<256)(hb:b<256)(hm:m<256) :
  Calls Tryz.prog 6 #[.slice A n c,.int .u8 (a:Int),.int .u8 (b:Int),.int .u8 (m:Int)] w fun e w'=>e=.returned (.bool true)/\Below w.heap.size w w':=by
 by_cases hbig:2147483647<n
 ·have hbg:(2147483647:Int)<(n:Int):=by omega
  clear hS hbig
  go_enter Tryz.func6,Tryz.ntmps6
  go_wp2_with fail
  go_ret
  exact⟨rfl,Below.refl _ _⟩
 ·have hbg:¬ (2147483647:Int)<(n:Int):=by omega
  have c11:=fun W=>F.laws_qrVersion.calls (a:Int) _ W (version_some a ha)
  have c18:=fun W=>F.laws_qrLevel.calls (b:Int) _ W (level_some b hb)
  have c20:=fun W=>F.laws_qrMask.calls (m:Int) _ W (mask_some m hm)
  obtain⟨v,hv⟩:∃ v,1+a%40=v:=⟨_,rfl⟩
  obtain⟨lv,hlv⟩:∃ lv,b%4=lv:=⟨_,rfl⟩
  obtain⟨mk,hmk⟩:∃ mk,m%8=mk:=⟨_,rfl⟩
  rw [hv] at c11
  rw [hlv] at c18
  rw [hmk] at c20
  have hv1:1<=v/\v<=40:=by omega
  have hl4:lv<4:=by omega
  have hm8:mk<8:=by omega
  have C11:=Aside0.mk c11
  have C18:=Aside0.mk c18
  have C20:=Aside0.mk c20
  have C22:=Aside0.mk (fun W=>words22 W v lv hv1 hl4)
  have hd:=roomD_pos v lv hv1 hl4
  have hd3:=roomD_3000 v lv hv1 hl4
  have hr:=room_pos v hv1
  obtain⟨ws,hws⟩:∃ ws,padTo xs (roomD v lv)=ws:=⟨_,rfl⟩
  have hlen:ws.length=roomD v lv:=by rw [<- hws];exact padTo_len _ _
  have hlt:AllLt 8 ws:=by rw [<- hws];exact padTo_lt _ _ hS.byt
  have HIN:=Aside0.mk hS
  have C23:=Aside0.mk (fun W q cN h1 h2=>read23 W q (roomD v lv) cN v ws h1 h2 hlen hd.1 hd3 hlt hv1)
  have C25:=Aside0.mk (fun W q cN h1 h2 h3=>parse25_no W q v lv (roomD v lv) cN ws h1 h2 hlen hd.1 (by omega) hv1 hl4 hlt h3)
  obtain⟨cf,hcf,hpat⟩:=patterns_run _ (lv:Int) (mk:Int) (fmtEv lv mk hl4 hm8) v hv1
  have K27:=Aside0.mk (fun W q cN h1 h2 h3=>split27 W v lv q (roomD v lv) cN ws hv1 hl4 h1 h2 hlen rfl hlt h3)
  have K26:=Aside0.mk (fun W B vo qs cs h=>mixed26 W v lv B vo ws qs cs hv1 hl4 h hlen hlt)
  have hxl:(symWords v lv ws).length=roomN v/8:=by unfold symWords;rw [mixed_len,(lay_at v lv hv1 hl4).tot]
  have hx8:=symWords_lt v lv ws hlt
  have hsb:=streamBits_len (symWords v lv ws)
  rw [hxl] at hsb
  have K29:=Aside0.mk (fun W q cN h1 h2=>bits29 W q (roomN v/8) cN (symWords v lv ws) h1 h2 hxl (by omega) hx8)
  have K28:=Aside0.mk (fun W qb cb h1 h2=>mods28 W v lv mk qb (8*(roomN v/8)) cb (streamBits (symWords v lv ws)) cf hv1 hm8 hsb h1 h2 hpat)
  have HSB:=Aside0.mk hsb
  have C12:=Aside0.mk (fun (st:PS) (hrd:Rd ws v ⟨0,[],[],false,-1,-1⟩ (some st)) (W:World) (B g cap:Nat) (q cp:Nat->Nat) (h1:17+4*v<=cap) (h2:Brows W B g (17+4*v) q cp (putAll (modBit (streamBits (symWords v lv ws)) mk) (way (17+4*v) (fpB v (ctrs v))) 0 cf))=>decodeSym W B g cap v lv mk q cp ws cf st h1 h2 hv1 hl4 hm8 hlen hlt hcf hrd)
  have HWS:=Aside0.mk hws
  clear hv hlv hmk c11 c18 c20 hcf hpat hlen hlt hws hxl hx8 hsb hS ha hb hm
  obtain⟨N,hN⟩:∃ N,17+4*v=N:=⟨_,rfl⟩
  rw [hN] at K28 C12
  obtain⟨mz,hmz⟩:∃ mz,putAll (modBit (streamBits (symWords v lv ws)) mk) (way N (fpB v (ctrs v))) 0 cf=mz:=⟨_,rfl⟩
  rw [hmz] at K28 C12
  obtain⟨D,hD⟩:∃ D,roomD v lv=D:=⟨_,rfl⟩
  obtain⟨T,hT⟩:∃ T,roomN v/8=T:=⟨_,rfl⟩
  rw [hD] at K27 C22 C23 C25 hd hd3 HWS
  rw [hT] at K26 K29 K28 HSB hr
  clear hN hmz hD hT
  go_enter Tryz.func6,Tryz.ntmps6
  go_wp2_with fail
  refine (C11.out w).mono ?_
  rintro e w1 ⟨rfl,hd1⟩
  have HB1:=Aside0.mk hd1.below
  clear hd1
  go_wp2_with fail
  refine (C18.out w1).mono ?_
  rintro e w2 ⟨rfl,hd2⟩
  have HB2:=Aside0.mk (HB1.out.trans (hd2.below.mono HB1.out.size))
  clear hd2
  go_wp2_with fail
  refine (C22.out w2).mono ?_
  rintro e w3 ⟨rfl,hb3⟩
  have HB3:=Aside0.mk (HB2.out.trans (hb3.mono HB2.out.size))
  have hmk3:=make_u8 D (by omega) w3
  obtain⟨w4,hw4⟩:∃ w4,w4=w3.alloc (.cells (nums .u8 (ints (List.replicate D 0))).toArray 5):=⟨_,rfl⟩
  rw [<- hw4] at hmk3
  obtain⟨q,hq⟩:∃ q,q=w3.heap.size:=⟨_,rfl⟩
  rw [<- hq] at hmk3
  have hZ:UBlk w4 q (List.replicate D 0):=by rw [hw4,hq];exact Blk.new _ _ _
  have hB4:Below w.heap.size w w4:=by rw [hw4];exact HB3.out.alloc HB3.out.size _
  have hin4:BytesIn w4 A n c xs:=⟨HIN.out.len,HIN.out.cap,HIN.out.byt,HIN.out.at_.imp id fun ⟨ad,h1,h2⟩=>⟨ad,h1,fun j hj=>cell_up hB4 (h2 j hj)⟩⟩
  obtain⟨w5,kk,hcp,hU5,hT5⟩:=copy_u8 w4 q D A n c xs hZ hin4
  rw [HWS.out] at hU5
  have HB5:=Aside0.mk (hB4.trans (hT5.below (by rw [hq];exact HB3.out.size)))
  have HU5:=Aside0.mk hU5
  have HLE:=Aside0.mk HWS.out
  have hWL:ws.length=D:=by rw [<- HWS.out];exact padTo_len _ _
  have HBY:=Aside0.mk (show ByteAt w5 q 0 ws from fun i hi=>by rw [Nat.zero_add];exact hU5.cell i hi)
  have HQ5:=Aside0.mk (show q<w5.heap.size from Blk.lt hU5)
  clear hb3 hw4 hq hZ hB4 hin4 hU5 hT5 hWL
  go_wp2_with fail
  refine (C23.out w5 q D HBY.out HQ5.out).mono ?_
  clear hmk3 hcp
  rintro e w6 ⟨hb6,hcs⟩
  have HL6:=Aside0.mk hb6
  have HB6:=Aside0.mk (HB5.out.trans (hb6.mono HB5.out.size))
  clear hb6
  rcases hcs with rfl | ⟨rfl,hbad⟩ | ⟨v6,segs,p,B,rfl,hBB,hR,hrd,hsl,hsb⟩
  ·have k24:=said24 w6 none 0 0 [] (Kd.C_nil _ _) rfl (fun s hs=>by cases hs) (by decide)
   go_wp2_with fail
   refine k24.mono ?_
   rintro e w7 ⟨rfl,hb7⟩
   rw [if_pos (show ascS []=true from rfl)]
   have HB7:=Aside0.mk (HB6.out.trans (hb7.mono HB6.out.size))
   clear hb7 k24
   go_wp2_with fail
   go_ret
   exact⟨rfl,HB7.out⟩
  ·have k24:=said24 w6 none 0 0 [] (Kd.C_nil _ _) rfl (fun s hs=>by cases hs) (by decide)
   have HBAD:=Aside0.mk hbad
   clear hbad
   go_wp2_with fail
   refine k24.mono ?_
   rintro e w7 ⟨rfl,hb7⟩
   rw [if_pos (show ascS []=true from rfl)]
   have HB7:=Aside0.mk (HB6.out.trans (hb7.mono HB6.out.size))
   have HL7:=Aside0.mk (HL6.out.trans (hb7.mono HL6.out.size))
   have HBY7:=Aside0.mk (HBY.out.below HL7.out HQ5.out)
   have HQ7:=Aside0.mk (Nat.lt_of_lt_of_le HQ5.out HL7.out.size)
   clear hb7 k24
   go_wp2_with fail
   refine (C25.out w7 q D HBY7.out HQ7.out HBAD.out).mono ?_
   rintro e w8 ⟨rfl,hb8⟩
   unfold zeroDec
   have HB8:=Aside0.mk (HB7.out.trans (hb8.mono HB7.out.size))
   clear hb8
   go_wp2_with fail
   go_ret
   exact⟨rfl,HB8.out.alloc HB8.out.size _⟩
  ·obtain⟨A6,c6,rfl,hc6,hC6⟩:=Kd.R_reads hR
   obtain⟨sn,hsn⟩:∃ sn,segs.length=sn:=⟨_,rfl⟩
   rw [hsn] at hC6 hc6 hsl ⊢
   have HSN:=Aside0.mk hsn
   have HSG:=Aside0.mk hsb
   have HRD:=Aside0.mk hrd
   have HC6:=Aside0.mk hC6
   have k24:=said24 w6 A6 c6 sn segs hC6 hsn hsb hsl
   clear hR hC6 hrd hsb hsn hBB hc6
   go_wp2_with fail
   refine k24.mono ?_
   rintro e w7 ⟨rfl,hb7⟩
   have HB7:=Aside0.mk (HB6.out.trans (hb7.mono HB6.out.size))
   have HL7:=Aside0.mk (HL6.out.trans (hb7.mono HL6.out.size))
   have HC7:=Aside0.mk (Kd.C_below HC6.out hb7)
   have HBY7:=Aside0.mk (HBY.out.below HL7.out HQ5.out)
   have HQ7:=Aside0.mk (Nat.lt_of_lt_of_le HQ5.out HL7.out.size)
   clear hb7 k24
   cases hasc:ascS segs with
   | false=>
    rw [if_neg (by decide)]
    go_wp2_with fail
    go_ret
    exact⟨rfl,HB7.out⟩
   | true=>
    rw [if_pos rfl]
    have HASC:=Aside0.mk hasc
    obtain⟨st,hst⟩:∃ st,stOf p segs=st:=⟨_,rfl⟩
    have HTX:=Aside0.mk (show st.out=flatS segs by rw [<- hst];rfl)
    have HS4:=Aside0.mk (show st.segs=segs4 segs by rw [<- hst];rfl)
    have hrd:=HRD.out
    rw [hst] at hrd
    have C12b:=Aside0.mk (C12.out st hrd)
    have C21:=Aside0.mk (fun (W:World) (A':Option Addr) (c' base:Nat) (d:Value) (h1:DecIs W base lv ws st d) (h2:Kd.C F.k98 W A' sn segs)=>says21 W A' c' sn lv base segs ws st d h1 h2 HSN.out HSG.out hsl hl4 HTX.out HS4.out HASC.out)
    obtain⟨ts,hts⟩:∃ ts,strOfNums (flatS segs)=ts:=⟨_,rfl⟩
    rw [hts]
    clear hasc hst hrd hts C12
    have k27:=K27.out w7 q D HBY7.out HQ7.out (Nat.le_refl _)
    go_wp2_with fail
    refine k27.mono ?_
    rintro e0 wa ⟨vo,qs,cs,rfl,hR,hba⟩
    have HLa:=Aside0.mk hba
    have k26:=K26.out wa _ vo qs cs hR
    clear hR hba k27
    go_wp2_with fail
    refine k26.mono ?_
    rintro e0 wb ⟨vb,rfl,hob,hbb⟩
    have HLb:=Aside0.mk (HLa.out.trans (hbb.mono HLa.out.size))
    obtain⟨qb,cb,rfl,hqb,hcb,⟨csb,hkb⟩,hbyb,_⟩:=own_bytes hob hr.1
    have k29:=K29.out wb qb cb hbyb hkb.lt
    clear hob hbb hbyb hkb k26
    go_wp2_with fail
    refine k29.mono ?_
    rintro e0 wc ⟨vc,rfl,hoc,hbc⟩
    have HLc:=Aside0.mk (HLb.out.trans (hbc.mono HLb.out.size))
    obtain⟨qc,cc,rfl,hqc,hbits⟩:=bool_own' hoc HSB.out (by omega)
    have HBT:=Aside0.mk (fun W (hb:Below wc.heap.size wc W)=>show ∀ i,i<8*T->W.cell? ⟨qc,i,none⟩=some (.bool ((streamBits (symWords v lv ws)).getD i false)) from fun i hi=>(hb.cell hqc).trans (hbits i hi))
    have HQC:=Aside0.mk hqc
    clear hoc hbc hbits hqc k29
    go_wp2_with fail
    refine (C20.out wc).mono ?_
    rintro e0 wd2 ⟨rfl,hdd⟩
    have HLd:=Aside0.mk (HLc.out.trans (hdd.below.mono HLc.out.size))
    have k28:=K28.out wd2 qc cc (Nat.lt_of_lt_of_le HQC.out hdd.below.size) (HBT.out wd2 hdd.below)
    clear hdd
    go_wp2_with fail
    refine k28.mono ?_
    rintro e0 we ⟨ge,cape,qe,cpe,rfl,hcape,hbre,hbe⟩
    have HLe:=Aside0.mk (HLd.out.trans (hbe.mono HLd.out.size))
    have HBRE:=Aside0.mk hbre
    clear hbe hbre k28
    go_wp2_with fail
    refine (C12b.out we _ ge cape qe cpe hcape.1 HBRE.out).mono ?_
    rintro e wf ⟨d,rfl,hd7,hb7⟩
    have HLf:=Aside0.mk (HLe.out.trans (hb7.mono HLe.out.size))
    have HBf:=Aside0.mk (HB7.out.trans (HLf.out.mono HB7.out.size))
    have HCf:=Aside0.mk (Kd.C_below HC7.out HLf.out)
    obtain⟨Ar,cr,As,cs2,hdv,h1,h2⟩:=hd7
    have HDf:=Aside0.mk (show DecIs wf we.heap.size lv ws st d from ⟨Ar,cr,As,cs2,hdv,h1,h2⟩)
    obtain⟨t,ht⟩:∃ t,strOfNums st.out=t:=⟨_,rfl⟩
    obtain⟨nr,hnr⟩:∃ nr,ws.length=nr:=⟨_,rfl⟩
    obtain⟨ns,hns⟩:∃ ns,st.segs.length=ns:=⟨_,rfl⟩
    obtain⟨md,hmd⟩:∃ md:Int,(if st.fc then 3 else 1)=md:=⟨_,rfl⟩
    obtain⟨sq,hsq⟩:∃ sq,st.sq=sq:=⟨_,rfl⟩
    obtain⟨par,hpar⟩:∃ par,st.par=par:=⟨_,rfl⟩
    obtain⟨nm,hnm⟩:∃ nm,lvName lv=nm:=⟨_,rfl⟩
    rw [ht,hnr,hns,hmd,hsq,hpar,hnm] at hdv
    subst hdv
    obtain⟨w8,hw8⟩:∃ w8,w8=wf.alloc (.cells #[.string t,.slice Ar nr cr,.slice As ns cs2,.string nm,.int .i64 0,.int .i64 sq,.int .i64 par,.int .i64 md] 29):=⟨_,rfl⟩
    have HW8:=Aside0.mk hw8
    have HB8:=Aside0.mk (show Below w.heap.size w w8 by rw [hw8];exact HBf.out.alloc HBf.out.size _)
    have HL8:=Aside0.mk (show Below wf.heap.size wf w8 by rw [hw8];exact below_alloc (Below.refl _ _) _)
    have HK8:=Aside0.mk (show Blk w8 wf.heap.size 29 #[.string t,.slice Ar nr cr,.slice As ns cs2,.string nm,.int .i64 0,.int .i64 sq,.int .i64 par,.int .i64 md] by rw [hw8];exact Blk.new _ _ _)
    have HD8:=Aside0.mk (HDf.out.below HL8.out)
    have HC8:=Aside0.mk (Kd.C_below HCf.out HL8.out)
    clear hw8 h1 h2 ht hnr hns hmd hsq hpar hnm hb7
    go_wp2_with fail
    rw [<- HW8.out]
    have e0:=HK8.out.cell 0
    have e1:=HK8.out.cell 1
    have e2:=HK8.out.cell 2
    have e3:=HK8.out.cell 3
    have e4:=HK8.out.cell 4
    have e5:=HK8.out.cell 5
    have e6:=HK8.out.cell 6
    have e7:=HK8.out.cell 7
    have HBD:=Aside0.mk (show Below w.heap.size w w8.drew from ⟨HB8.out.os,HB8.out.tape,HB8.out.output,HB8.out.size,HB8.out.block⟩)
    have HD9:=Aside0.mk (HD8.out.below (show Below w8.heap.size w8 w8.drew from ⟨rfl,rfl,rfl,Nat.le_refl _,fun _ _=>rfl⟩))
    have HC9:=Aside0.mk (Kd.C_below HC8.out (show Below w8.heap.size w8 w8.drew from ⟨rfl,rfl,rfl,Nat.le_refl _,fun _ _=>rfl⟩))
    have e0d:=(show Blk w8.drew wf.heap.size 29 _ from HK8.out).cell 0
    have e1d:=(show Blk w8.drew wf.heap.size 29 _ from HK8.out).cell 1
    have e2d:=(show Blk w8.drew wf.heap.size 29 _ from HK8.out).cell 2
    have e3d:=(show Blk w8.drew wf.heap.size 29 _ from HK8.out).cell 3
    have e4d:=(show Blk w8.drew wf.heap.size 29 _ from HK8.out).cell 4
    have e5d:=(show Blk w8.drew wf.heap.size 29 _ from HK8.out).cell 5
    have e6d:=(show Blk w8.drew wf.heap.size 29 _ from HK8.out).cell 6
    have e7d:=(show Blk w8.drew wf.heap.size 29 _ from HK8.out).cell 7
    have k21:=C21.out w8 A6 c6 _ _ HD8.out HC8.out
    have k21d:=C21.out w8.drew A6 c6 _ _ HD9.out HC9.out
    go_wp2_with (go_at_call 21;first | (with_reducible (refine k21.mono ?_);rintro e w9 ⟨rfl,hb9⟩;have HB9:=Aside0.mk (HB8.out.trans (hb9.mono HB8.out.size));clear hb9) | (with_reducible (refine k21d.mono ?_);rintro e w9 ⟨rfl,hb9⟩;have HB9:=Aside0.mk (HBD.out.trans (hb9.mono HBD.out.size));clear hb9))
    go_ret
    exact⟨rfl,HB9.out⟩
end Go.Proofs.YtgccjgpdjkhpdaaGreat.B
