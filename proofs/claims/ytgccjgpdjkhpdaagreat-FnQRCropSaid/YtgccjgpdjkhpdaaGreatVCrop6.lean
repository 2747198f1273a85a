import Derived.Outline
import Derived.BigQuiet
import Derived.Test.YtgccjgpdjkhpdaaGreatVCrop4
import Derived.Test.YtgccjgpdjkhpdaaGreatVCrop9
import Derived.Test.YtgccjgpdjkhpdaaGreatVCrop15
/-! Own texts of this claim, part 6. -/
namespace Go.Proofs.YtgccjgpdjkhpdaaGreat.B
open Go.RowKit Go.Proofs.YtgccjgpdjkhpdaaGreatW.PrintWords Go.Proofs.YtgccjgpdjkhpdaaGreatW.PrintLast Go.Proofs.YtgccjgpdjkhpdaaGreatW.PrintMore
set_option linter.unusedVariables false
set_option linter.unusedSimpArgs false
theorem i64_xor_nat (a b:Nat)(ha:a<4294967296)(hb:b<4294967296):Go.bits .xor .i64 (a:Int) (b:Int)=((a ^^^ b:Nat):Int):=by
 have ha':a%2 ^ IntKind.i64.bits=a:=Nat.mod_eq_of_lt (Nat.lt_of_lt_of_le ha (by decide))
 have hb':b%2 ^ IntKind.i64.bits=b:=Nat.mod_eq_of_lt (Nat.lt_of_lt_of_le hb (by decide))
 have hx:a ^^^ b<2 ^ 32:=Nat.xor_lt_two_pow ha hb
 simp only [Go.bits,BitVec.ofInt_natCast,BitVec.toNat_xor,BitVec.toNat_ofNat,ha',hb']
 rw [IntKind.wrap_i64]
 omega
set_option maxHeartbeats 4000000 in
theorem newGF (w:World)(m p b:Nat)(F:Fld m p)(hP:Prim m p)(hm:m<=12)(hb:b<=1) :
  Calls Tryz.prog 124 #[.int .i64 (p:Int),.int .i64 ((2 ^ m:Nat):Int),.int .i64 (b:Int)] w fun e w'=>∃ gf,e=.returned (.pointer (some ⟨gf,0,none⟩))/\w.heap.size<=gf/\GFAt w' gf m p b/\Below w.heap.size w w':=by
 obtain⟨N,hN⟩:∃ N,2 ^ m=N:=⟨_,rfl⟩
 have hN1:N<=4096:=by rw [<- hN];exact Nat.le_trans (Nat.pow_le_pow_right (by omega) hm) (by decide)
 have hN2:2<=N:=by rw [<- hN];exact Nat.le_trans (by decide:2<=2 ^ 1) (Nat.pow_le_pow_right (by omega) F.one)
 have hp1:p<=8192:=by have:=F.hi;rw [Nat.pow_succ,hN] at this;omega
 rw [hN]
 have HN:=Aside0.mk hN
 have HF:=Aside0.mk F
 have HP:=Aside0.mk hP
 clear hN F hP
 have mk1:=make_int N (by omega)
 go_enter Tryz.func124,Tryz.ntmps124
 go_wp2
 obtain⟨B0,hB0⟩:∃ B0,B0=w.heap.size:=⟨_,rfl⟩
 rw [<- hB0]
 obtain⟨w2,hw2⟩:∃ w2,w2=((w.alloc (.cells #[.slice none 0 0,.slice none 0 0,.pointer none,.pointer none,.int .i64 (N:Int),.int .i64 (p:Int),.int .i64 (b:Int)] 233)).alloc (.cells (nums .i64 (ints (List.replicate N 0))).toArray 3)).alloc (.cells (nums .i64 (ints (List.replicate N 0))).toArray 3):=⟨_,rfl⟩
 rw [<- hw2]
 have HBG:=Aside0.mk (show Blk w2 B0 233 #[.slice none 0 0,.slice none 0 0,.pointer none,.pointer none,.int .i64 (N:Int),.int .i64 (p:Int),.int .i64 (b:Int)] by rw [hw2,hB0];exact ((Blk.new w _ _).alloc _).alloc _)
 have HBE:=Aside0.mk (show IBlk w2 (B0+1) (List.replicate N 0) by
  rw [hw2,hB0]
  have h:=Blk.new (w.alloc (.cells #[.slice none 0 0,.slice none 0 0,.pointer none,.pointer none,.int .i64 (N:Int),.int .i64 (p:Int),.int .i64 (b:Int)] 233)) 3 (nums .i64 (ints (List.replicate N 0))).toArray
  have h2:=h.alloc (.cells (nums .i64 (ints (List.replicate N 0))).toArray 3)
  unfold IBlk
  simpa using h2)
 have HBL:=Aside0.mk (show IBlk w2 (B0+1+1) (List.replicate N 0) by
  rw [hw2,hB0]
  have h:=Blk.new ((w.alloc (.cells #[.slice none 0 0,.slice none 0 0,.pointer none,.pointer none,.int .i64 (N:Int),.int .i64 (p:Int),.int .i64 (b:Int)] 233)).alloc (.cells (nums .i64 (ints (List.replicate N 0))).toArray 3)) 3 (nums .i64 (ints (List.replicate N 0))).toArray
  unfold IBlk
  simpa using h)
 have HBW:=Aside0.mk (show Below B0 w w2 by rw [hw2,hB0];exact below_alloc (below_alloc (below_alloc (Below.refl _ _) _) _) _)
 have HB0:=Aside0.mk hB0
 clear hw2 hB0 mk1
 go_loopw [10,11] (fun vx vi wr=>∃ i x:Nat,i<=N/\vi=.int .i64 (i:Int)/\vx=.int .i64 (x:Int)/\x<N/\Aside0 (x=gx m p i)/\Aside0 (IBlk wr (B0+1) (expsTo m p N i))/\Aside0 (Turn w2 wr (B0+1))) (fun _ vi _=>(N-intOf vi).toNat)
 case atStart=>exact⟨0,1,by omega,rfl,rfl,by omega,⟨rfl⟩,⟨by have:=HBE.out;exact this⟩,⟨Turn.refl _ _⟩⟩
 case round=>
  obtain⟨i,x,hi,rfl,rfl,hx,HX,HE,HT⟩:=hrel
  by_cases hlt:i<N
  ·have hel:=expsTo_len m p N i (by omega)
   have k1:=HE.out.cell i (by omega)
   have k2:wr.frozen? ⟨B0+1,i,none⟩=false:=Blk.frozen HE.out i
   obtain⟨y,hy⟩:∃ y,(expsTo m p N i).getD i 0=y:=⟨_,rfl⟩
   rw [hy] at k1
   have hgl:=gl_lt HF.out x (by rw [HN.out];omega)
   have hsucc:gl m p x=gx m p (i+1):=by rw [gx_succ,<- HX.out]
   have hset:IBlk (wr.setCell ⟨B0+1,i,none⟩ (.int .i64 (x:Int))) (B0+1) (expsTo m p N (i+1)):=by
    rw [<- expsTo_set m p N i hlt,<- HX.out]
    exact HE.out.set i x
   have hT2:Turn w2 (wr.setCell ⟨B0+1,i,none⟩ (.int .i64 (x:Int))) (B0+1):=HT.out.trans (Turn.set _ _ _ _)
   rw [HN.out] at hgl
   obtain⟨z,hz⟩:∃ z,gl m p x=z:=⟨_,rfl⟩
   rw [hz] at hgl hsucc
   have HS:=Aside0.mk hsucc
   have HSET:=Aside0.mk hset
   have HT2:=Aside0.mk hT2
   have HZ:=Aside0.mk hz
   clear hel hy hsucc hz hset hT2
   by_cases hsm:2*x<N
   ·have hzx:2*x=z:=by rw [<- HZ.out,double_small HF.out (by rw [HN.out];omega) (by rw [HN.out];omega)]
    have hzi:(x:Int)*2=(z:Int):=by omega
    have hzb:decide ((z:Int)≥(N:Int))=false:=decide_eq_false (by omega)
    clear hzx
    go_wp2
    go_roundw
    case rel=>exact⟨i+1,z,by omega,by go_num,rfl,hgl,HS,HSET,HT2⟩
    case measure=>simp [intOf];omega
   ·have hzx:2*x ^^^ p=z:=by rw [<- HZ.out,double_great HF.out (by rw [HN.out];omega) (by rw [HN.out];omega)]
    have hxr:Go.bits .xor .i64 ((x:Int)*2) (p:Int)=(z:Int):=by
     have:=i64_xor_nat (2*x) p (by omega) (by omega)
     rw [hzx] at this
     rw [<- this]
     congr 1
     omega
    have had:Go.bits .and .i64 (z:Int) ((N:Int)-1)=(z:Int):=by
     have:=i64_and_nat z (N-1) (by omega) (by omega)
     rw [show ((N-1:Nat):Int)=(N:Int)-1 by omega] at this
     rw [this,<- HN.out,Nat.and_two_pow_sub_one_eq_mod,HN.out,Nat.mod_eq_of_lt hgl]
    clear hzx
    go_wp2
    go_roundw
    case rel=>exact⟨i+1,z,by omega,by go_num,rfl,hgl,HS,HSET,HT2⟩
    case measure=>simp [intOf];omega
  ·have:i=N:=by omega
   subst this
   go_wp2
   have HEall:=Aside0.mk (show IBlk wr (B0+1) (exps m p) by have:=HE.out;rw [<- HN.out,expsTo_all] at this;exact this)
   have HBL2:=Aside0.mk (show IBlk wr (B0+1+1) (List.replicate i 0) from HT.out.blk HBL.out (by omega))
   obtain⟨w3,rfl⟩:∃ w3:World,w3=wr:=⟨_,rfl⟩
   go_loopw [12] (fun vi w4=>∃ j:Nat,∃ ls,j<=i-1/\vi=.int .i64 (j:Int)/\Aside0 (IBlk w4 (B0+1+1) ls)/\Aside0 (Logs m p j ls)/\Aside0 (Turn w3 w4 (B0+1+1))) (fun vi _=>(i-intOf vi).toNat)
   case atStart=>exact⟨0,_,by omega,rfl,HBL2,⟨⟨by rw [List.length_replicate,HN.out],fun _ h=>by omega⟩⟩,⟨Turn.refl _ _⟩⟩
   case round=>
    obtain⟨j,ls,hj,rfl,HL,HLG,HT4⟩:=hrel
    by_cases hltj:j<i-1
    ·have hge:IBlk wr (B0+1) (exps m p):=HT4.out.blk HEall.out (by omega)
     have k1:=hge.cell j (by rw [exps_len,HN.out];omega)
     rw [exps_get m p j (by rw [HN.out];omega)] at k1
     have hgl:=gx_lt HF.out j
     rw [HN.out] at hgl
     obtain⟨x,hx⟩:∃ x,gx m p j=x:=⟨_,rfl⟩
     rw [hx] at k1 hgl
     have k2:=HL.out.cell x (by rw [HLG.out.len,HN.out];omega)
     have k3:wr.frozen? ⟨B0+1+1,x,none⟩=false:=Blk.frozen HL.out x
     have HSL:=Aside0.mk (HLG.out.step HF.out HP.out (by rw [HN.out];omega))
     rw [hx] at HSL
     have HSET:=Aside0.mk (HL.out.set x j)
     have HT5:=Aside0.mk (HT4.out.trans (Turn.set wr (B0+1+1) x (.int .i64 (j:Int))))
     clear hge hx
     go_wp2
     go_roundw
     case rel=>exact⟨j+1,_,by omega,by go_num,HSET,HSL,HT5⟩
     case measure=>simp [intOf];omega
    ·have:j=i-1:=by omega
     subst this
     have hwrap:((i-1:Nat):Int)=(i:Int)-1:=by omega
     have hbg:Blk wr B0 233 #[.slice none 0 0,.slice none 0 0,.pointer none,.pointer none,.int .i64 (i:Int),.int .i64 (p:Int),.int .i64 (b:Int)]:=HT4.out.blk (HT.out.blk HBG.out (by omega)) (by omega)
     have c0:=hbg.cell 0
     have c1:=hbg.cell 1
     have f0:=hbg.frozen 0
     have f1:=hbg.frozen 1
     have HBG5:=Aside0.mk hbg
     clear hbg
     go_wp2_with fail
     obtain⟨w5,hw5⟩:∃ w5,w5=(wr.setCell ⟨B0,0,none⟩ (.slice (some ⟨B0+1,0,none⟩) i i)).setCell ⟨B0,1,none⟩ (.slice (some ⟨B0+1+1,0,none⟩) i i):=⟨_,rfl⟩
     have HT5:=Aside0.mk (show Turn wr w5 B0 by rw [hw5];exact (Turn.set _ _ _ _).trans (Turn.set _ _ _ _))
     have HG5:=Aside0.mk (show Blk w5 B0 233 #[.slice (some ⟨B0+1,0,none⟩) i i,.slice (some ⟨B0+1+1,0,none⟩) i i,.pointer none,.pointer none,.int .i64 (i:Int),.int .i64 (p:Int),.int .i64 (b:Int)] by
      rw [hw5]
      exact blk_set (blk_set HBG5.out 0 _) 1 _)
     rw [<- hw5]
     have hsz:wr.heap.size=w5.heap.size:=HT5.out.size.symm
     rw [hsz]
     clear hw5 hsz c0 c1 f0 f1
     have hb6:=Aside0.mk (below_alloc (Below.refl w5.heap.size w5) (.cells #[.int .i64 0] 3))
     refine (newPoly _ B0 w5.heap.size 0 1 [0] (IRow.whole (show IBlk (w5.alloc (.cells (nums .i64 (ints [0])).toArray 3)) w5.heap.size [0] from Blk.new w5 3 (nums .i64 (ints [0])).toArray)) (by simp) (by simp) (by simp)).mono ?_
     rintro e w7 ⟨zp,rfl,hzp,hPZ,hB7⟩
     have hs6:w5.heap.size+1=(w5.alloc (.cells #[.int .i64 0] 3)).heap.size:=by simp
     have HB57:=Aside0.mk (show Below w5.heap.size w5 w7 from hb6.out.trans (hB7.mono (by simp)))
     have hG7:Blk w7 B0 233 #[.slice (some ⟨B0+1,0,none⟩) i i,.slice (some ⟨B0+1+1,0,none⟩) i i,.pointer none,.pointer none,.int .i64 (i:Int),.int .i64 (p:Int),.int .i64 (b:Int)]:=HG5.out.below HB57.out HG5.out.lt
     have c2:=hG7.cell 2
     have f2:=hG7.frozen 2
     have hzp':w5.heap.size<zp:=by have:(w5.alloc (.cells #[.int .i64 0] 3)).heap.size<=zp:=hzp;omega
     have HPZ:=Aside0.mk hPZ
     have HG7:=Aside0.mk hG7
     have HZP:=Aside0.mk hzp'
     clear hPZ hB7 hzp hs6 hG7 hzp'
     go_wp2_with fail
     obtain⟨w8,hw8⟩:∃ w8,w8=w7.setCell ⟨B0,2,none⟩ (.pointer (some ⟨zp,0,none⟩)):=⟨_,rfl⟩
     have HT8:=Aside0.mk (show Turn w7 w8 B0 by rw [hw8];exact Turn.set _ _ _ _)
     have HG8:=Aside0.mk (show Blk w8 B0 233 #[.slice (some ⟨B0+1,0,none⟩) i i,.slice (some ⟨B0+1+1,0,none⟩) i i,.pointer (some ⟨zp,0,none⟩),.pointer none,.int .i64 (i:Int),.int .i64 (p:Int),.int .i64 (b:Int)] by
      rw [hw8]
      exact blk_set HG7.out 2 _)
     rw [<- hw8]
     have hsz:w7.heap.size=w8.heap.size:=HT8.out.size.symm
     rw [hsz]
     clear hw8 hsz c2 f2
     have hb9:=Aside0.mk (below_alloc (Below.refl w8.heap.size w8) (.cells #[.int .i64 1] 3))
     refine (newPoly _ B0 w8.heap.size 0 1 [1] (IRow.whole (show IBlk (w8.alloc (.cells (nums .i64 (ints [1])).toArray 3)) w8.heap.size [1] from Blk.new w8 3 (nums .i64 (ints [1])).toArray)) (by simp) (by simp) (by simp)).mono ?_
     rintro e w9 ⟨op,rfl,hop,hPO,hB9⟩
     have hs9:w8.heap.size+1=(w8.alloc (.cells #[.int .i64 1] 3)).heap.size:=by simp
     have HB89:=Aside0.mk (show Below w8.heap.size w8 w9 from hb9.out.trans (hB9.mono (by simp)))
     have hG9:Blk w9 B0 233 #[.slice (some ⟨B0+1,0,none⟩) i i,.slice (some ⟨B0+1+1,0,none⟩) i i,.pointer (some ⟨zp,0,none⟩),.pointer none,.int .i64 (i:Int),.int .i64 (p:Int),.int .i64 (b:Int)]:=HG8.out.below HB89.out HG8.out.lt
     have c3:=hG9.cell 3
     have f3:=hG9.frozen 3
     have hop':w8.heap.size<op:=by have:(w8.alloc (.cells #[.int .i64 1] 3)).heap.size<=op:=hop;omega
     have HPO:=Aside0.mk hPO
     have HG9:=Aside0.mk hG9
     have HOP:=Aside0.mk hop'
     clear hPO hB9 hop hs9 hG9 hop'
     go_wp2_with fail
     go_ret
     obtain⟨wz,hwz⟩:∃ wz,wz=w9.setCell ⟨B0,3,none⟩ (.pointer (some ⟨op,0,none⟩)):=⟨_,rfl⟩
     have hTz:Turn w9 wz B0:=by rw [hwz];exact Turn.set _ _ _ _
     have hGz:Blk wz B0 233 #[.slice (some ⟨B0+1,0,none⟩) i i,.slice (some ⟨B0+1+1,0,none⟩) i i,.pointer (some ⟨zp,0,none⟩),.pointer (some ⟨op,0,none⟩),.int .i64 (i:Int),.int .i64 (p:Int),.int .i64 (b:Int)]:=by
      rw [hwz]
      exact blk_set HG9.out 3 _
     rw [<- hwz]
     have sB:B0=w.heap.size:=HB0.out
     have s2:wr.heap.size=w3.heap.size:=HT4.out.size
     have s5:w5.heap.size=wr.heap.size:=HT5.out.size
     have s57:w5.heap.size<=w7.heap.size:=HB57.out.size
     have s78:w8.heap.size=w7.heap.size:=HT8.out.size
     have s89:w8.heap.size<=w9.heap.size:=HB89.out.size
     have hT9:=(Turn.set w9 B0 3 (.pointer (some ⟨op,0,none⟩)))
     rw [<- hwz] at hT9
     have lBE:B0+1<wr.heap.size:=Blk.lt (HT4.out.blk HEall.out (by omega):IBlk wr (B0+1) (exps m p))
     have lBL:B0+1+1<wr.heap.size:=Blk.lt HL.out
     have kE:IBlk wz (B0+1) (exps m p):=by
      have a4:IBlk wr (B0+1) (exps m p):=HT4.out.blk HEall.out (by omega)
      have a5:IBlk w5 (B0+1) (exps m p):=HT5.out.blk a4 (by omega)
      have a7:IBlk w7 (B0+1) (exps m p):=Blk.below a5 HB57.out (Blk.lt a5)
      have a8:IBlk w8 (B0+1) (exps m p):=HT8.out.blk a7 (by omega)
      have a9:IBlk w9 (B0+1) (exps m p):=Blk.below a8 HB89.out (Blk.lt a8)
      exact hT9.blk a9 (by omega)
     have kL:IBlk wz (B0+1+1) ls:=by
      have a5:IBlk w5 (B0+1+1) ls:=HT5.out.blk HL.out (by omega)
      have a7:IBlk w7 (B0+1+1) ls:=Blk.below a5 HB57.out (Blk.lt a5)
      have a8:IBlk w8 (B0+1+1) ls:=HT8.out.blk a7 (by omega)
      have a9:IBlk w9 (B0+1+1) ls:=Blk.below a8 HB89.out (Blk.lt a8)
      exact hT9.blk a9 (by omega)
     have kZ:PolyAt wz zp B0 [0]:=by
      have a7:PolyAt w7 zp B0 [0]:=HPZ.out
      have a8:PolyAt w8 zp B0 [0]:=a7.upd (Upd.of_turn HT8.out) HG7.out (by decide) (by decide)
      have a9:PolyAt w9 zp B0 [0]:=a8.below HB89.out (Nat.le_refl _)
      exact a9.upd (Upd.of_turn hT9) HG9.out (by decide) (by decide)
     have kO:PolyAt wz op B0 [1]:=by
      have a9:PolyAt w9 op B0 [1]:=HPO.out
      exact a9.upd (Upd.of_turn hT9) HG9.out (by decide) (by decide)
     refine⟨B0,rfl,by omega,⟨B0+1,B0+1+1,zp,op,ls,?_,kE,kL,?_,kZ,kO⟩,?_⟩
     ·rw [HN.out]
      exact hGz
     ·rw [HN.out]
      exact HLG.out
     ·rw [<- sB]
      have b3:Below B0 w w3:=HBW.out.trans (HT.out.below (by omega))
      have b4:Below B0 w wr:=b3.trans (HT4.out.below (by omega))
      have b5:Below B0 w w5:=b4.trans (HT5.out.below (by omega))
      have b7:Below B0 w w7:=b5.trans (HB57.out.mono (by omega))
      have b8:Below B0 w w8:=b7.trans (HT8.out.below (by omega))
      have b9:Below B0 w w9:=b8.trans (HB89.out.mono (by omega))
      exact b9.trans (hT9.below (by omega))
theorem gfQR (w:World):Calls Tryz.prog 79 #[] w fun e w'=>∃ gf,e=.returned (.pointer (some ⟨gf,0,none⟩))/\w.heap.size<=gf/\GFAt w' gf 8 285 0/\Below w.heap.size w w':=by
 have k:Calls Tryz.prog 124 #[.int .i64 285,.int .i64 256,.int .i64 0] w _:=newGF w 8 285 0 fQR pQR (by omega) (by omega)
 go_enter Tryz.func79,Tryz.ntmps79
 go_wp2_with (go_at_call 124;refine k.mono ?_;rintro e w' ⟨gf,rfl,h1,h2,h3⟩)
 have H2:=Aside0.mk h2
 clear h2
 go_ret
 exact⟨gf,rfl,h1,H2.out,h3⟩
theorem newRS (w:World)(gf:Nat):Calls Tryz.prog 78 #[.pointer (some ⟨gf,0,none⟩)] w fun e w'=>e=.returned (.pointer (some ⟨w.heap.size,0,none⟩))/\w'=w.alloc (.cells #[.pointer (some ⟨gf,0,none⟩)] 196):=by
 go_enter Tryz.func78,Tryz.ntmps78
 go_wp2
 go_ret
 exact⟨rfl,rfl⟩
def DecAt (w:World)(d rs gf:Nat):Prop:=Blk w d 137 #[.pointer (some ⟨rs,0,none⟩)]/\Blk w rs 196 #[.pointer (some ⟨gf,0,none⟩)]/\GFAt w gf 8 285 0
theorem DecAt.below {w w':World}{d rs gf B:Nat}(h:DecAt w d rs gf)(hb:Below B w w')(hB:w.heap.size<=B):DecAt w' d rs gf :=
 ⟨h.1.below hb (by have:=h.1.lt;omega),h.2.1.below hb (by have:=h.2.1.lt;omega),h.2.2.below hb hB⟩
theorem newDec (w:World):Calls Tryz.prog 36 #[] w fun e w'=>∃ d rs gf,e=.returned (.pointer (some ⟨d,0,none⟩))/\w.heap.size<=gf/\w.heap.size<=rs/\w.heap.size<=d/\DecAt w' d rs gf/\Below w.heap.size w w':=by
 go_enter Tryz.func36,Tryz.ntmps36
 go_wp2_with (first | (go_at_call 79;refine (gfQR _).mono ?_;rintro e w' ⟨gf,rfl,h1,h2,h3⟩;have H2:=Aside0.mk h2;have H3:=Aside0.mk h3;clear h2 h3) | (go_at_call 78;refine (newRS _ gf).mono ?_;rintro e w'' ⟨rfl,rfl⟩))
 go_ret
 have hs:=H3.out.size
 refine⟨w'.heap.size+1,w'.heap.size,gf,rfl,h1,by omega,by omega,⟨?_,(Blk.new w' 196 _).alloc _,?_⟩,below_alloc (below_alloc H3.out _) _⟩
 ·simpa using Blk.new (w'.alloc (.cells #[.pointer (some ⟨gf,0,none⟩)] 196)) 137 #[.pointer (some ⟨w'.heap.size,0,none⟩)]
 ·exact H2.out.below (below_alloc (below_alloc (Below.refl _ _) _) _) (Nat.le_refl _)
def zeroDec:Value:=.agg #[.string ⟨#[]⟩,.slice none 0 0,.slice none 0 0,.string ⟨#[]⟩,.int .i64 0,.int .i64 0,.int .i64 0,.int .i64 0]
theorem decoded_err (w:World)(v:Value)(t:TypeId)(x:Value):Calls Tryz.prog 35 #[v,.iface t x] w fun e w'=>e=.returned (.tuple #[zeroDec,.bool false])/\Below w.heap.size w w':=by
 go_enter Tryz.func35,Tryz.ntmps35
 go_wp2
 exact bodyPost_ret (v:=.tuple #[zeroDec,.bool false]) (by simp [results,Tryz.results35,go_sem,zeroDec]) rfl ⟨rfl,below_alloc (Below.refl _ _) _⟩
theorem decode_bad (w:World)(d g b wd ht:Nat)(v:Value)(f:Nat->Nat->Bool)(G:Grid w g b wd ht f)(h2:ht<=1000)(h:BadSize ht) :
  Calls Tryz.prog 126 #[.pointer (some ⟨d,0,none⟩),.pointer (some ⟨g,0,none⟩),v] w fun e w'=>(∃ x,e=.returned (.tuple #[.pointer none,.iface 208 x]))/\Below w.heap.size w w':=by
 have k:=newParser_bad w g b wd ht f G h2 h
 clear G h
 go_enter Tryz.func126,Tryz.ntmps126
 go_wp2_with (first | (go_at_call 82;refine k.mono ?_;rintro e w1 ⟨⟨x,rfl⟩,hb1⟩) | (go_at_call 87;refine (wrapFmt _ 208 x).mono ?_;rintro e w2 ⟨⟨y,rfl⟩,hb2⟩))
 go_ret2
 exact⟨⟨y,rfl⟩,hb1.trans (hb2.mono hb1.size)⟩
structure Square (rows:List (List Bool))(n:Nat):Prop where
 len:rows.length=n
 head:(rows.getD 0 []).length=n
 row:∀ y,y<n->n<=(rows.getD y []).length/\(rows.getD y []).length<=1000000
theorem qrDecode_badR (w:World)(A:Option Addr)(c:Nat)(rows:List (List Bool))(wd n:Nat)(hr:BRows w A rows)(hc:rows.length<=c)(hn:rows.length=n)(hwd:(rows.getD 0 []).length=wd)(hrow:∀ y,y<n->wd<=(rows.getD y []).length/\(rows.getD y []).length<=1000000)
  (h1:1<=n) (h2:n<=1000) (h3:1<=wd) (h4:wd<=1000) (h:BadSize n) :
  Calls Tryz.prog 12 #[.slice A n c] w fun e w'=>e=.returned (.tuple #[zeroDec,.bool false])/\Below w.heap.size w w':=by
 have HR:=Aside0.mk hr
 have HS:=Aside0.mk hn
 have HWD:=Aside0.mk hwd
 have HROW:=Aside0.mk hrow
 have H:=Aside0.mk h
 have HC:=Aside0.mk hc
 clear hr hn hwd hrow h hc
 have k37:∀ (W:World) (d:Nat),BRows W A rows->Calls Tryz.prog 37 #[.pointer (some ⟨d,0,none⟩),.slice A n c] W fun e w'=>(∃ x,e=.returned (.tuple #[.pointer none,.iface 208 x]))/\Below W.heap.size W w':=by
  intro W d hrW
  have kp:=parseMap W A c rows wd n hrW HC.out HS.out h1 h2 HWD.out h3 h4 HROW.out
  have k80:Calls Tryz.prog 80 #[.pointer (some ⟨d,0,none⟩),.slice A n c,.map none] W fun e w'=>(∃ x,e=.returned (.tuple #[.pointer none,.iface 208 x]))/\Below W.heap.size W w':=by
   clear hrW
   go_enter Tryz.func80,Tryz.ntmps80
   go_wp2_with (first | (go_at_call 125;refine kp.mono ?_;rintro e w1 ⟨rfl,hG,hb1⟩;have HG:=Aside0.mk hG;have HB1:=Aside0.mk hb1;clear hG hb1) | (go_at_call 126;refine (decode_bad _ d _ _ _ _ _ _ HG.out h2 H.out).mono ?_;rintro e w2 ⟨⟨x,rfl⟩,hb2⟩))
   go_ret2
   exact⟨⟨x,rfl⟩,HB1.out.trans (hb2.mono HB1.out.size)⟩
  clear hrW kp
  go_enter Tryz.func37,Tryz.ntmps37
  go_wp2_with (go_at_call 80;refine k80.mono ?_;rintro e w1 ⟨⟨x,rfl⟩,hb1⟩)
  go_ret2
  exact⟨⟨x,rfl⟩,hb1⟩
 have K37:=Aside0.mk k37
 clear k37
 obtain⟨w0,hw0⟩:∃ w0,w0=w.alloc (.cells #[.string ⟨#[]⟩,.slice none 0 0,.slice none 0 0,.string ⟨#[]⟩,.int .i64 0,.int .i64 0,.int .i64 0,.int .i64 0] 29):=⟨_,rfl⟩
 have HB0:=Aside0.mk (show Below w.heap.size w w0 by rw [hw0];exact below_alloc (Below.refl _ _) _)
 have HD0:=Aside0.mk (show Blk w0 w.heap.size 29 #[.string ⟨#[]⟩,.slice none 0 0,.slice none 0 0,.string ⟨#[]⟩,.int .i64 0,.int .i64 0,.int .i64 0,.int .i64 0] by rw [hw0];exact Blk.new _ _ _)
 obtain⟨B0,hB⟩:∃ B0,B0=w.heap.size:=⟨_,rfl⟩
 have HW:=Aside0.mk hw0
 have HBB:=Aside0.mk hB
 clear hw0 hB
 go_enter Tryz.func12,Tryz.ntmps12
 go_wp2_with fail
 rw [<- HW.out]
 refine (newDec w0).mono ?_
 rintro e w1 ⟨d,rs,gf,rfl,_,_,_,_,hb1⟩
 have HB1:=Aside0.mk hb1
 clear hb1
 go_wp2_with fail
 refine (K37.out w1 d (Kd.C_below HR.out (HB0.out.trans (HB1.out.mono HB0.out.size)))).mono ?_
 rintro e w2 ⟨⟨x,rfl⟩,hb2⟩
 have HB2:=Aside0.mk hb2
 clear hb2
 go_wp2_with fail
 refine (decoded_err w2 _ _ _).mono ?_
 rintro e w3 ⟨rfl,hb3⟩
 have hB3:Below w0.heap.size w0 w3:=(HB1.out.trans (HB2.out.mono HB1.out.size)).trans (hb3.mono (Nat.le_trans HB1.out.size HB2.out.size))
 have hD3:=HD0.out.below hB3 HD0.out.lt
 have c0:=hD3.cell 0
 have c1:=hD3.cell 1
 have c2:=hD3.cell 2
 have c3:=hD3.cell 3
 have c4:=hD3.cell 4
 have c5:=hD3.cell 5
 have c6:=hD3.cell 6
 have c7:=hD3.cell 7
 have f0:=hD3.frozen 0
 have f1:=hD3.frozen 1
 have f2:=hD3.frozen 2
 have f3:=hD3.frozen 3
 have f4:=hD3.frozen 4
 have f5:=hD3.frozen 5
 have f6:=hD3.frozen 6
 have f7:=hD3.frozen 7
 have HB3:=Aside0.mk hB3
 clear hb3 hB3 hD3
 unfold zeroDec
 go_wp2
 clear c0 c1 c2 c3 c4 c5 c6 c7 f0 f1 f2 f3 f4 f5 f6 f7
 obtain⟨w4,hw4⟩:∃ w4,w4=(((((((w3.setCell ⟨w.heap.size,0,none⟩ (.string ⟨#[]⟩)).setCell ⟨w.heap.size,1,none⟩ (.slice none 0 0)).setCell ⟨w.heap.size,2,none⟩ (.slice none 0 0)).setCell ⟨w.heap.size,3,none⟩ (.string ⟨#[]⟩)).setCell ⟨w.heap.size,4,none⟩ (.int .i64 0)).setCell ⟨w.heap.size,5,none⟩ (.int .i64 0)).setCell ⟨w.heap.size,6,none⟩ (.int .i64 0)).setCell ⟨w.heap.size,7,none⟩ (.int .i64 0):=⟨_,rfl⟩
 rw [<- hw4]
 have hT:Turn w3 w4 w.heap.size:=by
  rw [hw4]
  exact (((((((Turn.set _ _ _ _).trans (Turn.set _ _ _ _)).trans (Turn.set _ _ _ _)).trans (Turn.set _ _ _ _)).trans (Turn.set _ _ _ _)).trans (Turn.set _ _ _ _)).trans (Turn.set _ _ _ _)).trans (Turn.set _ _ _ _)
 have hD4:Blk w4 w.heap.size 29 #[.string ⟨#[]⟩,.slice none 0 0,.slice none 0 0,.string ⟨#[]⟩,.int .i64 0,.int .i64 0,.int .i64 0,.int .i64 0]:=by
  rw [hw4]
  exact blk_set (blk_set (blk_set (blk_set (blk_set (blk_set (blk_set (blk_set (HD0.out.below HB3.out HD0.out.lt) 0 _) 1 _) 2 _) 3 _) 4 _) 5 _) 6 _) 7 _
 have c0:w4.cell? ⟨w.heap.size,0,none⟩=_:=hD4.cell 0
 have c1:w4.cell? ⟨w.heap.size,1,none⟩=_:=hD4.cell 1
 have c2:w4.cell? ⟨w.heap.size,2,none⟩=_:=hD4.cell 2
 have c3:w4.cell? ⟨w.heap.size,3,none⟩=_:=hD4.cell 3
 have c4:w4.cell? ⟨w.heap.size,4,none⟩=_:=hD4.cell 4
 have c5:w4.cell? ⟨w.heap.size,5,none⟩=_:=hD4.cell 5
 have c6:w4.cell? ⟨w.heap.size,6,none⟩=_:=hD4.cell 6
 have c7:w4.cell? ⟨w.heap.size,7,none⟩=_:=hD4.cell 7
 have hbel:Below w.heap.size w w4:=(HB0.out.trans (HB3.out.mono HB0.out.size)).trans (hT.below (Nat.le_refl _))
 exact bodyPost_ret (v:=.tuple #[zeroDec,.bool false]) (by simp [results,Tryz.results12,go_sem,zeroDec,c0,c1,c2,c3,c4,c5,c6,c7]) rfl ⟨rfl,hbel⟩
def VerOK (f:Nat->Nat->Bool)(v:Nat):Prop:=7<=v->hd (vacc f (17+4*v) 18) (verTabN.getD (v-7) 0)<=3
theorem readVersion (w:World)(p g b v:Nat)(fm:Value)(f:Nat->Nat->Bool)(hP:Parser w p g v fm)(G:Grid w g b (17+4*v) (17+4*v) f)(hv:1<=v/\v<=40)(hok:VerOK f v) :
  Calls Tryz.prog 39 #[.pointer (some ⟨p,0,none⟩)] w (VerRead w p g v fm):=by
 obtain⟨x1,hB,hx⟩:=hP
 rcases hx with rfl | ⟨pv,rfl,hV⟩
 ·by_cases h:v<=6
  ·exact readVersion_small w p g b v fm f hB G ⟨hv.1,h⟩
  ·exact readVersion_great w p g b v fm f hB G ⟨by omega,hv.2⟩ (hok (by omega))
 ·exact readVersion_again w p g v pv fm hB hV
theorem verNum (w:World)(p n:Nat)(v:VerRow)(h:VerAt w p (n:Int) v):Calls Tryz.prog 41 #[.pointer (some ⟨p,0,none⟩)] w fun e w'=>e=.returned (.int .i64 (n:Int))/\w=w':=by
 obtain⟨gc,ge,g,h1,_⟩:=h
 exact ver_num w p _ (h1.cell 0)
theorem fmtLevel (w:World)(q d:Nat)(h:FmtAt w q d):Calls Tryz.prog 42 #[.pointer (some ⟨q,0,none⟩)] w fun e w'=>e=.returned (.int .i64 ((d/8:Nat):Int))/\w=w':=by
 have c0:w.cell? ⟨q,0,none⟩=_:=Blk.cell h 0
 obtain⟨x,hx⟩:∃ x,d/8=x:=⟨_,rfl⟩
 rw [hx] at c0 ⊢
 clear h hx
 replace c0:w.cell? ⟨q,0,none⟩=some (.int .i64 (x:Int)):=c0
 go_enter Tryz.func42,Tryz.ntmps42
 go_wp2
 go_ret
 exact⟨rfl,rfl⟩
theorem fmtMask (w:World)(q d:Nat)(h:FmtAt w q d):Calls Tryz.prog 44 #[.pointer (some ⟨q,0,none⟩)] w fun e w'=>e=.returned (.int .u8 ((d%8:Nat):Int))/\w=w':=by
 have c0:w.cell? ⟨q,1,none⟩=_:=Blk.cell h 1
 obtain⟨x,hx⟩:∃ x,d%8=x:=⟨_,rfl⟩
 rw [hx] at c0 ⊢
 clear h hx
 replace c0:w.cell? ⟨q,1,none⟩=some (.int .u8 (x:Int)):=c0
 go_enter Tryz.func44,Tryz.ntmps44
 go_wp2
 go_ret
 exact⟨rfl,rfl⟩
theorem ver_same (w:World)(pv v:Nat)(r:VerRow)(h:VerAt w pv (v:Int) r):Calls Tryz.prog 41 #[.pointer (some ⟨pv,0,none⟩)] w fun e w'=>e=.returned (.int .i64 (v:Int))/\w=w':=verNum w pv v r h
def rowBits (m:Nat):List Int:=if m=1 then [10,12,14] else if m=2 then [9,11,13] else [8,16,16]
theorem modeRow (w:World)(m:Nat)(hm:m=1\/m=2\/m=4):Calls Tryz.prog 144 #[.int .i64 (m:Int)] w fun e w'=>e=.returned (.slice (some ⟨w.heap.size,0,none⟩) 3 3)/\w'=w.alloc (.cells (nums .i64 (rowBits m)).toArray 3):=by
 rcases hm with rfl | rfl | rfl
 all_goals
  go_enter Tryz.func144,Tryz.ntmps144
  go_wp2
  go_ret
  exact⟨rfl,rfl⟩
def verOff (v:Nat):Nat:=if v<=9 then 0 else if v<=26 then 1 else 2
theorem row_cnt (m v:Nat)(hm:m=1\/m=2\/m=4):rd (rowBits m) (verOff v:Nat)=(cntBits m v:Int):=by
 have hv:(v<=9)\/(¬ v<=9/\v<=26)\/(¬ v<=9/\¬ v<=26):=by omega
 unfold verOff cntBits
 rcases hv with h | ⟨h,h2⟩ | ⟨h,h2⟩<;>rcases hm with rfl | rfl | rfl<;>simp [*,rowBits,rd]<;>(first | rfl | omega)
theorem cntOf (w:World)(pv v m:Nat)(r:VerRow)(h:VerAt w pv (v:Int) r)(hv:1<=v/\v<=40)(hm:m=1\/m=2\/m=4) :
  Calls Tryz.prog 111 #[.int .i64 (m:Int),.pointer (some ⟨pv,0,none⟩)] w fun e w'=>e=.returned (.int .i64 (cntBits m v:Int))/\Below w.heap.size w w':=by
 have kv:=ver_same w pv v r h
 have K:=Aside0.mk (row_cnt m v hm)
 have ho:verOff v<=2:=by unfold verOff;split<;>first | omega | (split<;>omega)
 obtain⟨o,hoo⟩:∃ o,verOff v=o:=⟨_,rfl⟩
 rw [hoo] at K ho
 have hlen:(rowBits m).length=3:=by unfold rowBits;rcases hm with rfl | rfl | rfl<;>rfl
 have HB:=Aside0.mk (Blk.new w 3 (nums .i64 (rowBits m)).toArray)
 have c1:(w.alloc (.cells (nums .i64 (rowBits m)).toArray 3)).cell? ⟨w.heap.size,o,none⟩=some (.int .i64 (cntBits m v:Int)):=by
  have:=HB.out.ucell (o:Int) (by omega) (by rw [hlen];omega)
  rw [Int.toNat_natCast,K.out] at this
  exact this
 have km:=modeRow w m hm
 obtain⟨w2,hw2⟩:∃ w2,w2=w.alloc (.cells (nums .i64 (rowBits m)).toArray 3):=⟨_,rfl⟩
 rw [<- hw2] at c1 km
 have HBel:=Aside0.mk (show Below w.heap.size w w2 by rw [hw2];exact below_alloc (Below.refl _ _) _)
 clear h hw2 hlen
 have hcs:(v<=9/\o=0)\/(10<=v/\v<=26/\o=1)\/(27<=v/\o=2):=by unfold verOff at hoo;split at hoo<;>first | omega | (split at hoo<;>omega)
 clear hoo ho
 rcases hcs with⟨h1,rfl⟩ | ⟨h1,h2,rfl⟩ | ⟨h1,rfl⟩
 all_goals
  go_enter Tryz.func111,Tryz.ntmps111
  go_wp2_with (first | (go_at_call 41;refine kv.mono ?_;rintro e w' ⟨rfl,rfl⟩) | (go_at_call 144;refine km.mono ?_;rintro e w' ⟨rfl,rfl⟩))
  try go_quiet (fail)
  try go_wp2
  go_ret
  exact⟨rfl,HBel.out⟩
def lvName (l:Nat):ByteArray:=if l=0 then ⟨#[77]⟩ else if l=1 then ⟨#[76]⟩ else if l=2 then ⟨#[72]⟩ else ⟨#[81]⟩
theorem levelName (w:World)(l:Nat)(h:l<4):Calls Tryz.prog 118 #[.int .i64 (l:Int)] w fun e w'=>e=.returned (.string (lvName l))/\w=w':=by
 have:l=0\/l=1\/l=2\/l=3:=by omega
 rcases this with rfl | rfl | rfl | rfl
 all_goals
  go_enter Tryz.func118,Tryz.ntmps118
  go_wp2
  go_ret
  exact⟨rfl,rfl⟩
theorem newRes (w:World)(g n cg:Nat)(t nm:ByteArray)(A:Option Addr)(m c:Nat)(sq par md:Int)(hn:n<=1000000) :
  Calls Tryz.prog 117 #[.slice (some ⟨g,0,none⟩) n cg,.string t,.slice A m c,.string nm,.int .i64 sq,.int .i64 par,.int .i64 md] w fun e w'=>e=.returned (.pointer (some ⟨w.heap.size,0,none⟩))/\
   w'=w.alloc (.cells #[.slice (some ⟨g,0,none⟩) n cg,.int .i64 (8*(n:Int)),.string t,.slice A m c,.string nm,.int .i64 0,.int .i64 0,.nilIface,.int .i64 par,.int .i64 sq,.int .i64 md] 194):=by
 go_enter Tryz.func117,Tryz.ntmps117
 go_wp2
 go_ret
 exact⟨rfl,rfl⟩
def Drawn (w w':World):Prop:=∃ n,w'=w.drewN n
theorem gfExp (w:World)(gf m p b i:Nat)(h:GFAt w gf m p b)(hi:i<2 ^ m):Calls Tryz.prog 176 #[.pointer (some ⟨gf,0,none⟩),.int .i64 (i:Int)] w fun e w'=>e=.returned (.int .i64 (gx m p i:Int))/\w'=w:=by
 obtain⟨ge,gl,zp,op,ls,h1,h2,-⟩:=h
 have c0:w.cell? ⟨gf,0,none⟩=some (.slice (some ⟨ge,0,none⟩) (2 ^ m) (2 ^ m)):=h1.cell 0
 have k:=h2.cell i (by rw [exps_len];exact hi)
 rw [exps_get m p i hi] at k
 obtain⟨N,hN⟩:∃ N,2 ^ m=N:=⟨_,rfl⟩
 obtain⟨x,hx⟩:∃ x,gx m p i=x:=⟨_,rfl⟩
 rw [hN] at c0 hi
 rw [hx] at k ⊢
 clear h1 h2 hN hx
 go_enter Tryz.func176,Tryz.ntmps176
 go_wp2
 go_ret
 exact⟨rfl,rfl⟩
theorem gfBase (w:World)(gf m p b:Nat)(h:GFAt w gf m p b):Calls Tryz.prog 177 #[.pointer (some ⟨gf,0,none⟩)] w fun e w'=>e=.returned (.int .i64 (b:Int))/\w'=w:=by
 obtain⟨ge,gl,zp,op,ls,h1,-⟩:=h
 have c0:w.cell? ⟨gf,6,none⟩=some (.int .i64 (b:Int)):=h1.cell 6
 clear h1
 go_enter Tryz.func177,Tryz.ntmps177
 go_wp2
 go_ret
 exact⟨rfl,rfl⟩
theorem addSub (w:World)(a b:Nat)(ha:a<4294967296)(hb:b<4294967296):Calls Tryz.prog 184 #[.int .i64 (a:Int),.int .i64 (b:Int)] w fun e w'=>e=.returned (.int .i64 ((a ^^^ b:Nat):Int))/\w'=w:=by
 have k:=i64_xor_nat a b ha hb
 go_enter Tryz.func184,Tryz.ntmps184
 go_wp2
 go_ret
 exact⟨rfl,rfl⟩
theorem tmod_nat (s n:Nat):Int.tmod (s:Int) (n:Int)=((s%n:Nat):Int):=by
 rw [Int.tmod_eq_emod_of_nonneg (by omega)]
 rfl
theorem gfMul (w:World)(gf m p b x y:Nat)(F:Fld m p)(hP:Prim m p)(hm:m<=12)(h:GFAt w gf m p b)(hx:x<2 ^ m)(hy:y<2 ^ m):Calls Tryz.prog 186 #[.pointer (some ⟨gf,0,none⟩),.int .i64 (x:Int),.int .i64 (y:Int)] w fun e w'=>e=.returned (.int .i64 (gm m p x y:Int))/\Drawn w w':=by
 by_cases hx0:x=0
 ·subst hx0
  rw [gm_zero_left]
  clear h hx hy
  go_enter Tryz.func186,Tryz.ntmps186
  go_wp2
  go_ret
  exact⟨rfl,0,rfl⟩
 ·by_cases hy0:y=0
  ·subst hy0
   rw [gm_zero_right]
   clear h hx hy
   go_enter Tryz.func186,Tryz.ntmps186
   go_wp2
   go_ret
   exact⟨rfl,0,rfl⟩
  ·obtain⟨i,hi,hgi⟩:=gx_log F hP x hx0 hx
   obtain⟨j,hj,hgj⟩:=gx_log F hP y hy0 hy
   obtain⟨ge,gl,zp,op,ls,h1,h2,h3,h4,-⟩:=h
   have c0:w.cell? ⟨gf,0,none⟩=some (.slice (some ⟨ge,0,none⟩) (2 ^ m) (2 ^ m)):=h1.cell 0
   have c1:w.cell? ⟨gf,1,none⟩=some (.slice (some ⟨gl,0,none⟩) (2 ^ m) (2 ^ m)):=h1.cell 1
   have c4:w.cell? ⟨gf,4,none⟩=some (.int .i64 ((2 ^ m:Nat):Int)):=h1.cell 4
   have l1:=h3.cell x (by rw [h4.len];exact hx)
   have l2:=h3.cell y (by rw [h4.len];exact hy)
   rw [<- hgi,h4.log i hi,hgi] at l1
   rw [<- hgj,h4.log j hj,hgj] at l2
   have ho:=ord_pos F
   have hq:(i+j)%(2 ^ m-1)<2 ^ m:=Nat.lt_of_lt_of_le (Nat.mod_lt _ ho) (Nat.sub_le _ _)
   have l3:=h2.cell ((i+j)%(2 ^ m-1)) (by rw [exps_len];exact hq)
   rw [exps_get m p _ hq,<- gm_tab F hP,hgi,hgj] at l3
   obtain⟨N,hN⟩:∃ N,2 ^ m=N:=⟨_,rfl⟩
   have hN4:N<=4096:=by rw [<- hN];exact Nat.le_trans (Nat.pow_le_pow_right (by omega) hm) (by decide)
   rw [hN] at c0 c1 c4 l3 hi hj hx hy ho hq
   obtain⟨s,hs⟩:∃ s,(i+j)%(N-1)=s:=⟨_,rfl⟩
   obtain⟨r,hr⟩:∃ r,gm m p x y=r:=⟨_,rfl⟩
   have ht:Int.tmod ((i:Int)+(j:Int)) ((N:Int)-1)=(s:Int):=by
    rw [show (i:Int)+(j:Int)=((i+j:Nat):Int) by omega,show (N:Int)-1=((N-1:Nat):Int) by omega,tmod_nat,hs]
   rw [hs] at l3 hq
   rw [hr] at l3 ⊢
   have bx:((x:Int)==0)=false:=by simp;omega
   have by_:((y:Int)==0)=false:=by simp;omega
   have hne:¬ ((N:Int)-1=0):=by omega
   clear h1 h2 h3 h4 hN hs hr hgi hgj F hP
   go_enter Tryz.func186,Tryz.ntmps186
   go_wp2
   go_quiet (fail)
   go_wp2
   go_ret
   exact⟨rfl,_,rfl⟩
theorem take_snoc (xs:List Nat)(i:Nat)(h:i<xs.length):xs.take (i+1)=xs.take i++[xs.getD i 0]:=by
 rw [List.take_add_one,List.getElem?_eq_getElem h]
 simp [List.getD,List.getElem?_eq_getElem h]
theorem pev_take {m p:Nat}(F:Fld m p)(r:Nat)(hr:r<2 ^ m)(xs:List Nat)(hl:AllLt m xs)(i:Nat)(hi:i<xs.length):pev m p r (xs.take (i+1))=gm m p r (pev m p r (xs.take i)) ^^^ xs.getD i 0:=by
 have h1:AllLt m (xs.take i):=fun x hx=>hl x (List.mem_of_mem_take hx)
 have h2:xs.getD i 0<2 ^ m:=hl _ (by simp [List.getD,List.getElem?_eq_getElem hi])
 rw [take_snoc xs i hi,pev_snoc F r hr _ _ h1 h2,gm_comm F _ r (pev_lt F r _ h1) hr]
theorem getD_lt {m:Nat}{xs:List Nat}(hl:AllLt m xs)(i:Nat):xs.getD i 0<2 ^ m:=by
 by_cases h:i<xs.length
 ·exact hl _ (by simp [List.getD,List.getElem?_eq_getElem h])
 ·simp [List.getD,List.getElem?_eq_none (Nat.le_of_not_lt h),Nat.two_pow_pos]
theorem pev_nought {m p:Nat}(F:Fld m p)(xs:List Nat)(hl:AllLt m xs)(h0:xs≠[]):pev m p 0 xs=xs.getD (xs.length-1) 0:=by
 have hpos:0<xs.length:=by cases xs with | nil=>exact absurd rfl h0 | cons _ _=>simp
 have:=pev_take F 0 (Nat.two_pow_pos m) xs hl (xs.length-1) (by omega)
 rw [show xs.length-1+1=xs.length by omega,List.take_length,gm_zero_left,Nat.zero_xor] at this
 exact this
theorem polyCoef (w:World)(q gf k:Nat)(xs:List Nat)(h:PolyAt w q gf xs)(hk:k<xs.length)(hl:xs.length<=100000):Calls Tryz.prog 185 #[.pointer (some ⟨q,0,none⟩),.int .i64 (k:Int)] w fun e w'=>e=.returned (.int .i64 ((xs.getD (xs.length-1-k) 0:Nat):Int))/\Drawn w w':=by
 obtain⟨g,o,c,h1,h2,h3,h4⟩:=h
 have c1:w.cell? ⟨q,1,none⟩=some (.slice (some ⟨g,o,none⟩) xs.length c):=h1.cell 1
 have k1:=h3.at_ (xs.length-1-k) (by omega)
 obtain⟨v,hv⟩:∃ v,xs.getD (xs.length-1-k) 0=v:=⟨_,rfl⟩
 rw [hv] at k1 ⊢
 obtain⟨n,hn⟩:∃ n,xs.length=n:=⟨_,rfl⟩
 rw [hn] at c1 k1 hk hl h2
 obtain⟨i,hi⟩:∃ i,n-1-k=i:=⟨_,rfl⟩
 rw [hi] at k1
 have hii:(n:Int)-1-(k:Int)=(i:Int):=by omega
 have hin:i<n:=by omega
 clear h1 h3 h4 hv hn hi
 go_enter Tryz.func185,Tryz.ntmps185
 go_wp2
 go_quiet (fail)
 go_wp2
 go_ret
 exact⟨rfl,_,rfl⟩
theorem Drawn.below {w w':World}(h:Drawn w w'):Below w.heap.size w w':=by
 obtain⟨n,rfl⟩:=h
 exact pw_below_drewN (Below.refl _ _) n
theorem Drawn.more {w w':World}(h:Drawn w w')(n:Nat):Drawn w (w'.drewN n):=by
 obtain⟨k,rfl⟩:=h
 exact⟨k+n,by rw [World.drewN_drewN]⟩
theorem Drawn.refl (w:World):Drawn w w:=⟨0,rfl⟩
theorem Drawn.trans {a b c:World}(h:Drawn a b)(k:Drawn b c):Drawn a c:=by
 obtain⟨n,rfl⟩:=k
 exact h.more n
theorem GFAt.drawn {w:World}{gf m p b:Nat}(h:GFAt w gf m p b)(n:Nat):GFAt (w.drewN n) gf m p b:=h.below (pw_below_drewN (Below.refl w.heap.size w) n) (Nat.le_refl _)
theorem PolyAt.drawn {w:World}{q gf:Nat}{xs:List Nat}(h:PolyAt w q gf xs)(n:Nat):PolyAt (w.drewN n) q gf xs:=h.below (pw_below_drewN (Below.refl w.heap.size w) n) (Nat.le_refl _)
set_option maxHeartbeats 1000000 in
theorem polyEval (w:World)(q gf m p b a:Nat)(xs:List Nat)(F:Fld m p)(hP:Prim m p)(hm:m<=12)(hG:GFAt w gf m p b)(h:PolyAt w q gf xs)(hx:AllLt m xs)(ha:a<2 ^ m)(hl:xs.length<=100000) :
  Calls Tryz.prog 175 #[.pointer (some ⟨q,0,none⟩),.int .i64 (a:Int)] w fun e w'=>e=.returned (.int .i64 (pev m p a xs:Int))/\Drawn w w':=by
 obtain⟨N,hN⟩:∃ N,2 ^ m=N:=⟨_,rfl⟩
 have hN4:N<=4096:=by rw [<- hN];exact Nat.le_trans (Nat.pow_le_pow_right (by omega) hm) (by decide)
 have hN2:2<=N:=by rw [<- hN];exact Nat.le_trans (by decide:2<=2 ^ 1) (Nat.pow_le_pow_right (by omega) F.one)
 have hpv:∀ i,pev m p a (xs.take i)<N:=fun i=>by rw [<- hN];exact pev_lt F a _ (fun x hx'=>hx x (List.mem_of_mem_take hx'))
 have hgl:∀ i,xs.getD i 0<N:=fun i=>by rw [<- hN];exact getD_lt hx i
 have hstep:=pev_take F a ha xs hx
 have h0:xs≠[]:=by obtain⟨g,o,c,h1,h2,h3,h4⟩:=h;exact h4
 have hpos:0<xs.length:=by cases hxs:xs with | nil=>exact absurd hxs h0 | cons _ _=>simp
 obtain⟨n,hn⟩:∃ n,xs.length=n:=⟨_,rfl⟩
 by_cases ha0:a=0
 ·have k:=polyCoef w q gf 0 xs h hpos hl
  rw [Nat.sub_zero,<- pev_nought F xs hx h0,<- ha0] at k
  obtain⟨v,hv⟩:∃ v,pev m p a xs=v:=⟨_,rfl⟩
  rw [hv] at k ⊢
  clear hv hstep hpv hgl h hG hx ha hN F hP
  subst ha0
  go_enter Tryz.func175,Tryz.ntmps175
  go_wp2_with (go_at_call 185;refine k.mono ?_;rintro e w' ⟨rfl,hd⟩)
  go_ret
  exact⟨rfl,hd⟩
 ·have HF:=Aside0.mk F
  have HP:=Aside0.mk hP
  have HX:=Aside0.mk hx
  have HG:=Aside0.mk hG
  have HPO:=Aside0.mk h
  have HPV:=Aside0.mk hpv
  have HGL:=Aside0.mk hgl
  have HST:=Aside0.mk hstep
  have HN:=Aside0.mk hN
  have HA:=Aside0.mk ha
  have hall:xs.take n=xs:=by rw [<- hn];exact List.take_length
  have HALL:=Aside0.mk hall
  have HLN:=Aside0.mk hn
  rw [hn] at hpos hl
  have haN:a<N:=by rw [<- hN];exact ha
  obtain⟨g,o,c,h1,h2,h3,h4⟩:=h
  rw [hn] at h1 h2
  have c0:w.cell? ⟨q,0,none⟩=some (.pointer (some ⟨gf,0,none⟩)):=h1.cell 0
  have c1:w.cell? ⟨q,1,none⟩=some (.slice (some ⟨g,o,none⟩) n c):=h1.cell 1
  have HR:=Aside0.mk h3
  have HB1:=Aside0.mk h1
  have hp1:xs.getD 0 0=pev m p a (xs.take 1):=by
   have:=hstep 0 (by omega)
   rw [List.take_zero] at this
   rw [this]
   show _=gm m p a 0 ^^^ _
   rw [gm_zero_right,Nat.zero_xor]
  have HP1:=Aside0.mk hp1
  clear F hP hx hG h1 h3 h4 hpv hgl hstep hN ha hall hn h0 hp1
  by_cases ha1:a=1
  ·subst ha1
   show Calls Tryz.prog 175 #[.pointer (some ⟨q,0,none⟩),.int .i64 1] w _
   go_enter Tryz.func175,Tryz.ntmps175
   go_wp2
   go_loopw [5,22] (fun vr vi wr=>∃ i r:Nat,vi=.int .i64 (i:Int)/\vr=.int .i64 (r:Int)/\i<=n/\r<4096/\Aside0 (r=pev m p 1 (xs.take i))/\wr=w) (fun _ vi _=>(n-intOf vi).toNat)
   case atStart=>exact⟨0,0,rfl,rfl,by omega,by omega,⟨by rfl⟩,by first | rfl | trivial⟩
   case round=>
    obtain⟨i,r,rfl,rfl,hi,hr,HRR,rfl⟩:=hrel
    by_cases hin:i<n
    ·have k1:=HR.out.at_ i (by rw [HLN.out];exact hin)
     obtain⟨x,hx⟩:∃ x,xs.getD i 0=x:=⟨_,rfl⟩
     rw [hx] at k1
     have hxN:x<4096:=by have:=HGL.out i;omega
     have hnew:r ^^^ x=pev m p 1 (xs.take (i+1)):=by
      rw [HST.out i (by rw [HLN.out];exact hin),hx,<- HRR.out,gm_one_left HF.out r (by rw [HN.out,HRR.out];exact HPV.out i)]
     obtain⟨r2,hr2⟩:∃ r2,r ^^^ x=r2:=⟨_,rfl⟩
     have hr2N:r2<4096:=by rw [<- hr2,hnew];have:=HPV.out (i+1);omega
     have ka:=addSub wr r x (by omega) (by omega)
     rw [hr2] at ka hnew
     have HNEW:=Aside0.mk hnew
     clear hx hnew hr2
     go_wp2_with (go_at_call 184;refine ka.mono ?_;rintro e w' ⟨rfl,rfl⟩)
     go_roundw
     case rel=>exact⟨i+1,r2,by go_num,rfl,by omega,by omega,HNEW,by first | rfl | trivial⟩
     case measure=>simp [intOf];omega
    ·have:n=i:=by omega
     subst this
     go_wp2
     go_ret
     have e:pev m p 1 xs=r:=by rw [HRR.out,HALL.out]
     exact⟨by first | (rw [e];done) | (rw [e];rfl),Drawn.refl _⟩
  ·have ba0:((a:Int)==0)=false:=by simp;omega
   have ba1:((a:Int)==1)=false:=by simp;omega
   have k0:=HR.out.at_ 0 (by rw [HLN.out];exact hpos)
   rw [Nat.add_zero,HP1.out] at k0
   obtain⟨r0,hr0⟩:∃ r0,pev m p a (xs.take 1)=r0:=⟨_,rfl⟩
   rw [hr0] at k0
   have HR0:=Aside0.mk hr0
   have hr0N:r0<4096:=by rw [<- hr0];have:=HPV.out 1;omega
   clear hr0
   go_enter Tryz.func175,Tryz.ntmps175
   go_wp2
   go_loopw [8,10] (fun vr vi wr=>∃ i r:Nat,vi=.int .i64 (i:Int)/\vr=.int .i64 (r:Int)/\1<=i/\i<=n/\r<4096/\Aside0 (r=pev m p a (xs.take i))/\Aside0 (Drawn w wr)) (fun _ vi _=>(n-intOf vi).toNat)
   case atStart=>exact⟨1,r0,rfl,rfl,by omega,by omega,by omega,⟨HR0.out.symm⟩,⟨Drawn.refl _⟩⟩
   case round=>
    obtain⟨i,r,rfl,rfl,hi1,hi,hr,HRR,HD⟩:=hrel
    by_cases hin:i<n
    ·have d0:wr.cell? ⟨q,0,none⟩=some (.pointer (some ⟨gf,0,none⟩)):=(HB1.out.below HD.out.below HB1.out.lt).cell 0
     have d1:wr.cell? ⟨q,1,none⟩=some (.slice (some ⟨g,o,none⟩) n c):=(HB1.out.below HD.out.below HB1.out.lt).cell 1
     have k1:=(HR.out.below HD.out.below HR.out.lt).at_ i (by rw [HLN.out];exact hin)
     have hGd:=HG.out.below HD.out.below (Nat.le_refl _)
     have HGD:=Aside0.mk hGd
     obtain⟨x,hx⟩:∃ x,xs.getD i 0=x:=⟨_,rfl⟩
     rw [hx] at k1
     have hxN:x<4096:=by have:=HGL.out i;omega
     have hrN:r<2 ^ m:=by rw [HN.out,HRR.out];exact HPV.out i
     obtain⟨y,hy⟩:∃ y,gm m p a r=y:=⟨_,rfl⟩
     have hyN:y<4096:=by rw [<- hy];have:=gm_lt HF.out a r HA.out;rw [HN.out] at this;omega
     have hnew:y ^^^ x=pev m p a (xs.take (i+1)):=by
      rw [HST.out i (by rw [HLN.out];exact hin),hx,<- HRR.out,hy]
     obtain⟨r2,hr2⟩:∃ r2,y ^^^ x=r2:=⟨_,rfl⟩
     have hr2N:r2<4096:=by rw [<- hr2,hnew];have:=HPV.out (i+1);omega
     have km:=fun k=>gfMul (wr.drewN k) gf m p b a r HF.out HP.out hm (HGD.out.drawn k) HA.out hrN
     have ka:=fun k=>addSub (wr.drewN k) y x (by omega) (by omega)
     rw [hy] at km
     rw [hr2] at ka hnew
     have HNEW:=Aside0.mk hnew
     clear hx hnew hr2 hGd hy hrN c0 c1 k0
     go_wp2
     go_quiet (first
      | (go_at_call 186;exact Calls.quiet_of (km _))
      | (go_at_call 184;exact Calls.quiet_of_same (ka _)))
     clear km ka
     go_wp2
     go_roundw
     case rel=>exact⟨i+1,r2,by go_num,rfl,by omega,by omega,by omega,HNEW,⟨HD.out.more _⟩⟩
     case measure=>simp [intOf];omega
    ·have:n=i:=by omega
     subst this
     go_wp2
     go_ret
     have e:pev m p a xs=r:=by rw [HRR.out,HALL.out]
     exact⟨by first | (rw [e];done) | (rw [e];rfl),HD.out⟩
def maskB (m x y:Nat):Bool:=match m with
 | 0=>decide ((x+y)%2=0)
 | 1=>decide (y%2=0)
 | 2=>decide (x%3=0)
 | 3=>decide ((x+y)%3=0)
 | 4=>decide ((y/2+x/3)%2=0)
 | 5=>decide (x*y%2+x*y%3=0)
 | 6=>decide ((x*y%2+x*y%3)%2=0)
 | _=>decide (((x+y)%2+x*y%3)%2=0)
theorem and1n (n:Nat)(h:n<4294967296):Go.bits .and .i64 (n:Int) 1=((n%2:Nat):Int):=by
 have:=i64_and_nat n 1 h (by omega)
 rw [Nat.and_one_is_mod] at this
 exact this
theorem ret_b {a b:Bool}(h:a=b):Ending.returned (.bool a)=.returned (.bool b):=by rw [h]
theorem beq0 (n:Nat):(((n:Nat):Int)==0)=decide (n=0):=by
 by_cases h:n=0
 ·subst h;rfl
 ·rw [decide_eq_false h]
  simpa using h
def MaskIs (f m:Nat):Prop:=∀ (i j:Nat) (w:World),i<=1000->j<=1000->Calls Tryz.prog f #[.int .i64 (i:Int),.int .i64 (j:Int)] w fun e w'=>e=.returned (.bool (maskB m j i))/\w=w'
theorem mask0:MaskIs 132 0:=by
 intro i j w hi hj
 have ha:Go.bits .and .i64 ((i:Int)+(j:Int)) 1=(((i+j)%2:Nat):Int):=by rw [<- and1n (i+j) (by omega)];congr 1
 go_enter Tryz.func132,Tryz.ntmps132
 go_wp2
 go_ret
 exact⟨ret_b (by rw [show (maskB 0 j i)=decide ((j+i)%2=0) from rfl,Nat.add_comm j i];exact beq0 _),rfl⟩
theorem mask1:MaskIs 133 1:=by
 intro i j w hi hj
 have ha:Go.bits .and .i64 (i:Int) 1=((i%2:Nat):Int):=and1n i (by omega)
 go_enter Tryz.func133,Tryz.ntmps133
 go_wp2
 go_ret
 exact⟨ret_b (beq0 _),rfl⟩
theorem mask2:MaskIs 134 2:=by
 intro i j w hi hj
 go_enter Tryz.func134,Tryz.ntmps134
 go_wp2
 go_ret
 exact⟨ret_b (by rw [show (maskB 2 j i)=decide (j%3=0) from rfl,<- beq0];rfl),rfl⟩
theorem mask3:MaskIs 135 3:=by
 intro i j w hi hj
 go_enter Tryz.func135,Tryz.ntmps135
 go_wp2
 go_ret
 exact⟨ret_b (by rw [show (maskB 3 j i)=decide ((j+i)%3=0) from rfl,<- beq0,Nat.add_comm];rfl),rfl⟩
theorem mask4:MaskIs 136 4:=by
 intro i j w hi hj
 have ha:Go.bits .and .i64 ((i:Int)/2+(j:Int)/3) 1=(((i/2+j/3)%2:Nat):Int):=by rw [<- and1n (i/2+j/3) (by omega)];congr 1
 go_enter Tryz.func136,Tryz.ntmps136
 go_wp2
 go_ret
 exact⟨ret_b (beq0 _),rfl⟩
theorem mul_lim (i j:Nat)(hi:i<=1000)(hj:j<=1000):i*j<=1000000:=Nat.mul_le_mul hi hj
theorem mod5 (q:Nat):(q%6=0)↔(q%2+q%3=0):=by omega
theorem mod6 (q:Nat):((q:Int)%6<3)↔((q%2+q%3)%2=0):=by omega
theorem mod7 (a q:Nat):((a+q%3)%2=0)↔((a%2+q%3)%2=0):=by omega
theorem mask5:MaskIs 137 5:=by
 intro i j w hi hj
 obtain⟨q,hq⟩:∃ q,i*j=q:=⟨_,rfl⟩
 have hql:q<=1000000:=by rw [<- hq];exact mul_lim i j hi hj
 have hw:wrap64 ((i:Int)*(j:Int))=(q:Int):=by rw [<- Int.natCast_mul,hq];unfold wrap64;omega
 have HQ:=Aside0.mk hq
 clear hq
 go_enter Tryz.func137,Tryz.ntmps137
 go_wp2
 go_ret
 refine⟨ret_b ?_,rfl⟩
 rw [show (maskB 5 j i)=decide (j*i%2+j*i%3=0) from rfl,Nat.mul_comm j i,HQ.out]
 have e:(((q:Nat):Int)%6==0)=decide (q%6=0):=by rw [<- beq0];rfl
 refine e.trans ?_
 rw [decide_eq_decide]
 exact mod5 q
theorem mask6:MaskIs 138 6:=by
 intro i j w hi hj
 obtain⟨q,hq⟩:∃ q,i*j=q:=⟨_,rfl⟩
 have hql:q<=1000000:=by rw [<- hq];exact mul_lim i j hi hj
 have hw:wrap64 ((i:Int)*(j:Int))=(q:Int):=by rw [<- Int.natCast_mul,hq];unfold wrap64;omega
 have HQ:=Aside0.mk hq
 clear hq
 go_enter Tryz.func138,Tryz.ntmps138
 go_wp2
 go_ret
 refine⟨ret_b ?_,rfl⟩
 rw [show (maskB 6 j i)=decide ((j*i%2+j*i%3)%2=0) from rfl,Nat.mul_comm j i,HQ.out]
 rw [decide_eq_decide]
 exact mod6 q
theorem mask7:MaskIs 139 7:=by
 intro i j w hi hj
 obtain⟨q,hq⟩:∃ q,i*j=q:=⟨_,rfl⟩
 have hql:q<=1000000:=by rw [<- hq];exact mul_lim i j hi hj
 have hw:wrap64 ((i:Int)*(j:Int))=(q:Int):=by rw [<- Int.natCast_mul,hq];unfold wrap64;omega
 have ha:Go.bits .and .i64 ((i:Int)+(j:Int)+(q:Int)%3) 1=(((i+j+q%3)%2:Nat):Int):=by rw [<- and1n (i+j+q%3) (by omega)];congr 1
 have HQ:=Aside0.mk hq
 clear hq
 go_enter Tryz.func139,Tryz.ntmps139
 go_wp2
 go_ret
 refine⟨ret_b ?_,rfl⟩
 rw [show (maskB 7 j i)=decide (((j+i)%2+j*i%3)%2=0) from rfl,Nat.mul_comm j i,HQ.out]
 refine (beq0 _).trans ?_
 rw [decide_eq_decide,Nat.add_comm j i]
 exact mod7 (i+j) q
theorem maskOf (m:Nat)(h:m<8):MaskIs (132+m) m:=by
 match m,h with
 | 0,_=>exact mask0
 | 1,_=>exact mask1
 | 2,_=>exact mask2
 | 3,_=>exact mask3
 | 4,_=>exact mask4
 | 5,_=>exact mask5
 | 6,_=>exact mask6
 | 7,_=>exact mask7
def maskV (m:Nat):Value:=.func (.func (132+m)) #[] #[]
def maskCells:Array Value:=#[maskV 0,maskV 1,maskV 2,maskV 3,maskV 4,maskV 5,maskV 6,maskV 7]
theorem maskValues (w:World):Calls Tryz.prog 90 #[] w fun e w'=>e=.returned (.slice (some ⟨w.heap.size,0,none⟩) 8 8)/\w'=w.alloc (.cells maskCells 159):=by
 go_enter Tryz.func90,Tryz.ntmps90
 go_wp2
 go_ret
 exact⟨rfl,rfl⟩
def turned (m:Nat)(f:Nat->Nat->Bool)(i j:Nat):Nat->Nat->Bool:=fun x y=>if y<i\/y=i/\x<j then f x y != maskB m x y else f x y
set_option maxHeartbeats 8000000 in
theorem unmaskF (w:World)(FN m g b n:Nat)(f:Nat->Nat->Bool)(hM:MaskIs FN m)(hF:FN=132\/FN=133\/FN=134\/FN=135\/FN=136\/FN=137\/FN=138\/FN=139)(G:Grid w g b n n f)(hn:n<=1000) :
  Calls Tryz.prog 91 #[.agg #[.func (.func FN) #[] #[]],.pointer (some ⟨g,0,none⟩),.int .i64 (n:Int)] w fun e w'=>e=.returned (.tuple #[])/\Grid w' g b n n (fun x y=>f x y != maskB m x y)/\Upd w w' b:=by
 have hlt:=G.lt
 have HMASK:=Aside0.mk hM
 obtain⟨w0,hw0⟩:∃ w0,w0=w.alloc (.cells #[.func (.func FN) #[] #[]] 159):=⟨_,rfl⟩
 have HB0:=Aside0.mk (show Below w.heap.size w w0 by rw [hw0];exact below_alloc (Below.refl _ _) _)
 have HM0:=Aside0.mk (show Blk w0 w.heap.size 159 #[.func (.func FN) #[] #[]] by rw [hw0];exact Blk.new _ _ _)
 have HG0:=Aside0.mk (G.below HB0.out hlt.1 hlt.2)
 obtain⟨B0,hB⟩:∃ B0,B0=w.heap.size:=⟨_,rfl⟩
 have hne:b≠B0:=by omega
 have HW:=Aside0.mk hw0
 have HBB:=Aside0.mk hB
 have hb0:b<B0:=by omega
 clear G hlt hw0 hB hM
 rcases hF with rfl | rfl | rfl | rfl | rfl | rfl | rfl | rfl
 all_goals
  go_enter Tryz.func91,Tryz.ntmps91
  go_wp2
  rw [<- HW.out,<- HBB.out]
  rw [<- HBB.out] at HB0 HM0
  go_loopw [6] (fun v wr=>∃ i:Nat,i<=n/\v=.int .i64 (i:Int)/\Aside0 (Grid wr g b n n (turned m f i 0))/\Aside0 (Turn w0 wr b)) (fun v _=>(n-intOf v).toNat)
  case atStart=>exact⟨0,by omega,rfl,⟨HG0.out.congr fun x y _ _=>by unfold turned;rw [if_neg (by omega)]⟩,⟨Turn.refl _ _⟩⟩
  case round=>
   obtain⟨i,hi,rfl,HG,HT⟩:=hrel
   by_cases hlt:i<n
   ·go_wp2
    obtain⟨wo,rfl⟩:∃ wo:World,wo=wr:=⟨_,rfl⟩
    go_loopw [7] (fun v wi=>∃ j:Nat,j<=n/\v=.int .i64 (j:Int)/\Aside0 (Grid wi g b n n (turned m f i j))/\Aside0 (Turn w0 wi b)) (fun v _=>(n-intOf v).toNat)
    case atStart=>exact⟨0,by omega,rfl,HG,HT⟩
    case round=>
     obtain⟨j,hj,rfl,HGi,HTi⟩:=hrel
     by_cases hltj:j<n
     ·have hmb:=HTi.out.blk HM0.out (by omega)
      have c0:=hmb.cell 0
      have kc:=HMASK.out i j wr (by omega) (by omega)
      clear hmb
      cases hbit:maskB m j i with
      | true=>
       rw [hbit] at kc
       have HBIT:=Aside0.mk hbit
       clear hbit
       go_wp2_with (first | (go_at_call 140;refine (gridFlip _ g b n n _ j i HGi.out hltj hlt hn hn).mono ?_;rintro e w' ⟨rfl,hG2,hT2⟩) | ((first | go_at_call 132 | go_at_call 133 | go_at_call 134 | go_at_call 135 | go_at_call 136 | go_at_call 137 | go_at_call 138 | go_at_call 139);refine kc.mono ?_;rintro e w' ⟨rfl,rfl⟩))
       go_roundw
       case rel=>exact⟨j+1,by omega,by go_num,⟨hG2.congr fun x y hx hy=>by
        unfold turned
        by_cases e:x=j/\y=i
        ·rw [if_pos e,if_neg (by omega),if_pos (by omega),e.1,e.2,HBIT.out];cases f j i<;>rfl
        ·rw [if_neg e]
         by_cases e2:y<i\/y=i/\x<j
         ·rw [if_pos e2,if_pos (by omega)]
         ·rw [if_neg e2,if_neg (by omega)]⟩,⟨HTi.out.trans hT2⟩⟩
       case measure=>simp [intOf];omega
      | false=>
       rw [hbit] at kc
       have HBIT:=Aside0.mk hbit
       clear hbit
       go_wp2_with ((first | go_at_call 132 | go_at_call 133 | go_at_call 134 | go_at_call 135 | go_at_call 136 | go_at_call 137 | go_at_call 138 | go_at_call 139);refine kc.mono ?_;rintro e w' ⟨rfl,rfl⟩)
       go_roundw
       case rel=>exact⟨j+1,by omega,by go_num,⟨HGi.out.congr fun x y hx hy=>by
        unfold turned
        by_cases e:x=j/\y=i
        ·rw [if_neg (by omega),if_pos (by omega),e.1,e.2,HBIT.out];cases f j i<;>rfl
        ·by_cases e2:y<i\/y=i/\x<j
         ·rw [if_pos e2,if_pos (by omega)]
         ·rw [if_neg e2,if_neg (by omega)]⟩,HTi⟩
       case measure=>simp [intOf];omega
     ·have:j=n:=by omega
      subst this
      go_wp2
      go_roundw
      case rel=>exact⟨i+1,by omega,by go_num,⟨HGi.out.congr fun x y hx hy=>by
       unfold turned
       by_cases e2:y<i\/y=i/\x<j
       ·rw [if_pos e2,if_pos (by omega)]
       ·rw [if_neg e2,if_neg (by omega)]⟩,HTi⟩
      case measure=>simp [intOf];omega
   ·have:i=n:=by omega
    subst this
    go_wp2
    go_end0
    refine⟨rfl,HG.out.congr fun x y hx hy=>by unfold turned;rw [if_pos (by omega)],?_⟩
    have hb':Below w.heap.size w w0:=by rw [<- HBB.out];exact HB0.out
    exact (Upd.of_below hb' b).trans (Upd.of_turn HT.out)
theorem unmask (w:World)(m g b n:Nat)(f:Nat->Nat->Bool)(hm:m<8)(G:Grid w g b n n f)(hn:n<=1000) :
  Calls Tryz.prog 91 #[.agg #[maskV m],.pointer (some ⟨g,0,none⟩),.int .i64 (n:Int)] w fun e w'=>e=.returned (.tuple #[])/\Grid w' g b n n (fun x y=>f x y != maskB m x y)/\Upd w w' b :=
 unmaskF w (132+m) m g b n f (maskOf m hm) (by omega) G hn
theorem ctrs_look:∀ v:Fin 40,(verRow (v.val+1)).1=ints (ctrs (v.val+1))/\(ctrs (v.val+1)).length<=7/\∀ c∈ctrs (v.val+1),6<=c/\c+7<=17+4*(v.val+1):=by decide +kernel
theorem ctrs_row (v:Nat)(hv:1<=v/\v<=40):(verRow v).1=ints (ctrs v)/\(ctrs v).length<=7/\∀ c∈ctrs v,6<=c/\c+7<=17+4*v:=by
 have:=ctrs_look ⟨v-1,by omega⟩
 simp only [show v-1+1=v by omega] at this
 exact this
def alAny (cs:List Nat)(X Y x y:Nat):Bool:=(List.range cs.length).any fun p=>(List.range cs.length).any fun q=>
 decide ((p<X\/p=X/\q<Y)/\corner (cs.length-1) p q=false/\inReg (cs.getD q 0-2) (cs.getD p 0-2) 5 5 x y=true)
theorem alAny_iff (cs:List Nat)(X Y x y:Nat):alAny cs X Y x y=true↔∃ p q,p<cs.length/\q<cs.length/\(p<X\/p=X/\q<Y)/\corner (cs.length-1) p q=false/\inReg (cs.getD q 0-2) (cs.getD p 0-2) 5 5 x y=true:=by
 unfold alAny
 simp only [List.any_eq_true,List.mem_range,decide_eq_true_eq]
 constructor
 ·rintro⟨p,hp,q,hq,h⟩
  exact⟨p,q,hp,hq,h⟩
 ·rintro⟨p,q,hp,hq,h⟩
  exact⟨p,hp,q,hq,h⟩
theorem alAny_zero (cs:List Nat)(x y:Nat):alAny cs 0 0 x y=false:=by
 rw [Bool.eq_false_iff]
 intro h
 obtain⟨p,q,_,_,h,_⟩:=(alAny_iff cs 0 0 x y).1 h
 omega
theorem alAny_row (cs:List Nat)(X x y:Nat):alAny cs X cs.length x y=alAny cs (X+1) 0 x y:=by
 rw [Bool.eq_iff_iff,alAny_iff,alAny_iff]
 constructor
 ·rintro⟨p,q,hp,hq,h,k⟩
  exact⟨p,q,hp,hq,by omega,k⟩
 ·rintro⟨p,q,hp,hq,h,k⟩
  exact⟨p,q,hp,hq,by omega,k⟩
theorem alAny_step (cs:List Nat)(X Y x y:Nat)(hX:X<cs.length)(hY:Y<cs.length):alAny cs X (Y+1) x y=((!corner (cs.length-1) X Y && inReg (cs.getD Y 0-2) (cs.getD X 0-2) 5 5 x y) || alAny cs X Y x y):=by
 rw [Bool.eq_iff_iff,Bool.or_eq_true,Bool.and_eq_true,alAny_iff,alAny_iff,Bool.not_eq_true']
 constructor
 ·rintro⟨p,q,hp,hq,h,k1,k2⟩
  by_cases e:p=X/\q=Y
  ·obtain⟨rfl,rfl⟩:=e
   exact .inl ⟨k1,k2⟩
  ·exact .inr ⟨p,q,hp,hq,by omega,k1,k2⟩
 ·rintro (⟨k1,k2⟩ | ⟨p,q,hp,hq,h,k⟩)
  ·exact⟨X,Y,hX,hY,by omega,k1,k2⟩
  ·exact⟨p,q,hp,hq,by omega,k⟩
theorem alY_iff (last i y:Nat):∀ (cs:List Nat) (k:Nat),alY last i y k cs=true↔∃ q,q<cs.length/\corner last i (k+q)=false/\(cs.getD q 0-2<=y/\y<cs.getD q 0-2+5):=by
 intro cs
 induction cs with
 | nil=>intro k;simp [alY]
 | cons b cs ih=>
  intro k
  rw [alY,Bool.or_eq_true,Bool.and_eq_true,Bool.not_eq_true',decide_eq_true_eq,ih]
  constructor
  ·rintro (⟨h1,h2⟩ | ⟨q,hq,h1,h2⟩)
   ·exact⟨0,by simp,h1,h2⟩
   ·exact⟨q+1,by simpa using hq,by rw [show k+(q+1)=k+1+q by omega];exact h1,by simpa using h2⟩
  ·rintro⟨q,hq,h1,h2⟩
   cases q with
   | zero=>exact .inl ⟨h1,by simpa using h2⟩
   | succ q=>exact .inr ⟨q,by simpa using hq,by rw [show k+1+q=k+(q+1) by omega];exact h1,by simpa using h2⟩
theorem alX_iff (last:Nat)(cs:List Nat)(x y:Nat):∀ (bs:List Nat) (i:Nat),alX last cs x y i bs=true↔∃ p,p<bs.length/\(bs.getD p 0-2<=x/\x<bs.getD p 0-2+5)/\alY last (i+p) y 0 cs=true:=by
 intro bs
 induction bs with
 | nil=>intro i;simp [alX]
 | cons a bs ih=>
  intro i
  rw [alX,Bool.or_eq_true,Bool.and_eq_true,decide_eq_true_eq,ih]
  constructor
  ·rintro (⟨h1,h2⟩ | ⟨q,hq,h1,h2⟩)
   ·exact⟨0,by simp,by simpa using h1,h2⟩
   ·exact⟨q+1,by simpa using hq,by simpa using h1,by rw [show i+(q+1)=i+1+q by omega];exact h2⟩
  ·rintro⟨q,hq,h1,h2⟩
   cases q with
   | zero=>exact .inl ⟨by simpa using h1,h2⟩
   | succ q=>exact .inr ⟨q,by simpa using hq,by simpa using h1,by rw [show i+1+q=i+(q+1) by omega];exact h2⟩
theorem corner_comm (last i k:Nat):corner last i k=corner last k i:=by
 unfold corner
 rw [decide_eq_decide]
 omega
theorem alAny_all (cs:List Nat)(x y:Nat):alAny cs cs.length 0 x y=alB cs x y:=by
 rw [Bool.eq_iff_iff,alAny_iff]
 unfold alB
 rw [alX_iff]
 constructor
 ·rintro⟨p,q,hp,hq,_,h1,h2⟩
  unfold inReg at h2
  rw [decide_eq_true_eq] at h2
  refine⟨q,hq,⟨h2.1,h2.2.1⟩,?_⟩
  rw [alY_iff]
  exact⟨p,hp,by rw [Nat.zero_add,Nat.zero_add,corner_comm];exact h1,h2.2.2⟩
 ·rintro⟨q,hq,h1,h2⟩
  rw [alY_iff] at h2
  obtain⟨p,hp,h3,h4⟩:=h2
  refine⟨p,q,hp,hq,.inl hp,by rw [Nat.zero_add,Nat.zero_add,corner_comm] at h3;exact h3,?_⟩
  unfold inReg
  rw [decide_eq_true_eq]
  exact⟨h1.1,h1.2,h4⟩
theorem gridRegionI (w:World)(g b wd ht l t n' m':Nat)(left top n m:Int)(f:Nat->Nat->Bool)(G:Grid w g b wd ht f)(e1:left=(l:Int))(e2:top=(t:Int))(e3:n=(n':Int))(e4:m=(m':Int))(h2:1<=n')(h3:1<=m')(h4:l+n'<=wd)(h5:t+m'<=ht)(hw:wd<=1000)(hh:ht<=1000) :
  Calls Tryz.prog 142 #[.pointer (some ⟨g,0,none⟩),.int .i64 left,.int .i64 top,.int .i64 n,.int .i64 m] w fun e w'=>e=.returned .nilIface/\Grid w' g b wd ht (fun a c=>inReg l t n' m' a c || f a c)/\Turn w w' b:=by
 subst e1 e2 e3 e4
 exact gridRegion w g b wd ht l t n' m' f G h2 h3 h4 h5 hw hh
theorem newSquare (w:World)(n:Nat)(h1:1<=n)(h2:n<=1000):Calls Tryz.prog 141 #[.int .i64 (n:Int)] w fun e w'=>e=.returned (.tuple #[.pointer (some ⟨w.heap.size+1,0,none⟩),.nilIface])/\Grid w' (w.heap.size+1) w.heap.size n n (fun _ _=>false)/\Below w.heap.size w w':=by
 have k:=gridNew w n n h1 h1 h2 h2
 go_enter Tryz.func141,Tryz.ntmps141
 go_wp2_with (go_at_call 147;refine k.mono ?_;rintro e w' ⟨rfl,hG,hB⟩)
 have HG:=Aside0.mk hG
 clear hG
 go_ret2
 exact⟨rfl,HG.out,hB⟩
def fpBase (n x y:Nat):Bool:=inReg 0 (n-8) 9 8 x y || (inReg (n-8) 0 8 9 x y || inReg 0 0 9 9 x y)
set_option maxHeartbeats 4000000 in
theorem funcPattern (w:World)(pv v:Nat)(hv:1<=v/\v<=40)(hV:VerAt w pv (v:Int) (verRow v)) :
  Calls Tryz.prog 92 #[.pointer (some ⟨pv,0,none⟩)] w fun e w'=>∃ g b,e=.returned (.tuple #[.pointer (some ⟨g,0,none⟩),.nilIface])/\w.heap.size<=b/\b<g/\Grid w' g b (17+4*v) (17+4*v) (fpB v (ctrs v))/\Below w.heap.size w w':=by
 have kd:=verDim w pv v _ hV hv
 obtain⟨hrow,hlen,hcs⟩:=ctrs_row v hv
 obtain⟨gc,ge,gg,hB,hC,_⟩:=hV
 rw [hrow] at hB hC
 rw [ints_len] at hB
 obtain⟨cs,hcsd⟩:∃ cs,ctrs v=cs:=⟨_,rfl⟩
 rw [hcsd] at hB hC hlen hcs
 obtain⟨n,hn⟩:∃ n,17+4*v=n:=⟨_,rfl⟩
 rw [hn] at kd hcs ⊢
 obtain⟨mx,hmx⟩:∃ mx,cs.length=mx:=⟨_,rfl⟩
 rw [hmx] at hB hlen
 have hn1:21<=n:=by omega
 have hn2:n<=177:=by omega
 have hC':IBlk w gc cs:=hC
 have HC:=Aside0.mk hC'
 have HB:=Aside0.mk hB
 have HCS:=Aside0.mk hcs
 have HCD:=Aside0.mk hcsd
 have HN:=Aside0.mk hn
 have HMX:=Aside0.mk hmx
 have HROW:=Aside0.mk hrow
 obtain⟨hv1,hv2⟩:=hv
 have c0:w.cell? ⟨pv,0,none⟩=some (.int .i64 (v:Int)):=hB.cell 0
 clear hC hC' hB hcs hcsd hn hmx hrow
 go_enter Tryz.func92,Tryz.ntmps92
 go_wp2_with fail
 refine kd.mono ?_
 rintro e w' ⟨rfl,rfl⟩
 go_wp2_with fail
 refine (newSquare w n (by omega) (by omega)).mono ?_
 rintro e w1 ⟨rfl,hG,hB1⟩
 obtain⟨g,hg⟩:∃ g,g=w.heap.size+1:=⟨_,rfl⟩
 obtain⟨b,hb⟩:∃ b,b=w.heap.size:=⟨_,rfl⟩
 rw [<- hg,<- hb] at hG
 rw [<- hg]
 have HG1:=Aside0.mk hG
 have HB1:=Aside0.mk hB1
 have HGE:=Aside0.mk hg
 have HBE:=Aside0.mk hb
 clear hG hB1 hg hb kd
 go_wp2_with fail
 refine (gridRegionI w1 g b n n 0 0 9 9 _ _ _ _ _ HG1.out (by omega) (by omega) (by omega) (by omega) (by omega) (by omega) (by omega) (by omega) (by omega) (by omega)).mono ?_
 rintro e w2 ⟨rfl,hG2,hT2⟩
 have HG2:=Aside0.mk hG2
 have HT2:=Aside0.mk hT2
 clear hG2 hT2
 go_wp2_with fail
 refine (gridRegionI w2 g b n n (n-8) 0 8 9 _ _ _ _ _ HG2.out (by omega) (by omega) (by omega) (by omega) (by omega) (by omega) (by omega) (by omega) (by omega) (by omega)).mono ?_
 rintro e w3 ⟨rfl,hG3,hT3⟩
 have HG3:=Aside0.mk hG3
 have HT3:=Aside0.mk (HT2.out.trans hT3)
 clear hG3 hT3
 go_wp2_with fail
 refine (gridRegionI w3 g b n n 0 (n-8) 9 8 _ _ _ _ _ HG3.out (by omega) (by omega) (by omega) (by omega) (by omega) (by omega) (by omega) (by omega) (by omega) (by omega)).mono ?_
 rintro e w4 ⟨rfl,hG4,hT4⟩
 have HG4:=Aside0.mk (show Grid w4 g b n n (fun x y=>alAny cs 0 0 x y || fpBase n x y) from hG4.congr fun x y _ _=>by rw [alAny_zero,Bool.false_or];unfold fpBase;simp only [Bool.or_false])
 have HT4:=Aside0.mk (HT3.out.trans hT4)
 have hlb:w.heap.size<=b:=by have:=HBE.out;omega
 have HLT:=Aside0.mk hlb
 clear hG4 hT4
 have hver:∀ W,Turn w1 W b->Blk W pv 154 #[.int .i64 (v:Int),.slice (some ⟨gc,0,none⟩) mx mx,.slice (some ⟨ge,0,none⟩) 4 4,.int .i64 (rowTot (verRow v))]/\IBlk W gc cs:=by
  intro W hT
  have a1:=HB.out.below HB1.out HB.out.lt
  have a2:IBlk w1 gc cs:=Blk.below HC.out HB1.out (Blk.lt HC.out)
  have l1:=HB.out.lt
  have l2:=Blk.lt HC.out
  exact⟨hT.blk a1 (by omega),hT.blk a2 (by omega)⟩
 have HVER:=Aside0.mk hver
 clear hver hlb c0
 obtain⟨v1,v2⟩:=HVER.out w4 HT4.out
 have c1:w4.cell? ⟨pv,1,none⟩=some (.slice (some ⟨gc,0,none⟩) mx mx):=v1.cell 1
 clear v1 v2
 go_wp2_with fail
 clear c1
 go_loopw [8] (fun vx wr=>∃ X:Nat,X<=mx/\vx=.int .i64 (X:Int)/\Aside0 (Grid wr g b n n (fun x y=>alAny cs X 0 x y || fpBase n x y))/\Aside0 (Turn w1 wr b)) (fun vx _=>(mx-intOf vx).toNat)
 case atStart=>exact⟨0,by omega,rfl,HG4,HT4⟩
 case round=>
  obtain⟨X,hX,rfl,HGX,HTX⟩:=hrel
  obtain⟨k1,k2⟩:=HVER.out wr HTX.out
  by_cases hlt:X<mx
  ·have c1:wr.cell? ⟨pv,1,none⟩=some (.slice (some ⟨gc,0,none⟩) mx mx):=k1.cell 1
   have cX:=k2.cell X (by have:=HMX.out;omega)
   have hmem:cs.getD X 0∈cs:=by
    have:X<cs.length:=by have:=HMX.out;omega
    rw [List.getD_eq_getElem?_getD,List.getElem?_eq_getElem this]
    exact List.getElem_mem this
   obtain⟨hx1,hx2⟩:=HCS.out _ hmem
   obtain⟨cx,hcx⟩:∃ cx,cs.getD X 0=cx:=⟨_,rfl⟩
   rw [hcx] at cX hx1 hx2
   have HCX:=Aside0.mk hcx
   clear hcx hmem k1 k2
   go_wp2_with fail
   clear c1 cX
   go_loopw [10] (fun vy wi=>∃ Y:Nat,Y<=mx/\vy=.int .i64 (Y:Int)/\Aside0 (Grid wi g b n n (fun x y=>alAny cs X Y x y || fpBase n x y))/\Aside0 (Turn w1 wi b)) (fun vy _=>(mx-intOf vy).toNat)
   case atStart=>exact⟨0,by omega,rfl,HGX,HTX⟩
   case round=>
    obtain⟨Y,hY,rfl,HGY,HTY⟩:=hrel
    obtain⟨k1,k2⟩:=HVER.out wr HTY.out
    by_cases hltY:Y<mx
    ·have c1:wr.cell? ⟨pv,1,none⟩=some (.slice (some ⟨gc,0,none⟩) mx mx):=k1.cell 1
     have cY:=k2.cell Y (by have:=HMX.out;omega)
     have hmem:cs.getD Y 0∈cs:=by
      have:Y<cs.length:=by have:=HMX.out;omega
      rw [List.getD_eq_getElem?_getD,List.getElem?_eq_getElem this]
      exact List.getElem_mem this
     obtain⟨hy1,hy2⟩:=HCS.out _ hmem
     obtain⟨cy,hcy⟩:∃ cy,cs.getD Y 0=cy:=⟨_,rfl⟩
     rw [hcy] at cY hy1 hy2
     have HCY:=Aside0.mk hcy
     have hstep:=fun x y=>alAny_step cs X Y x y (by have:=HMX.out;omega) (by have:=HMX.out;omega)
     have HSTEP:=Aside0.mk hstep
     obtain⟨b1,e1⟩:∃ b,((X:Int)==0)=b:=⟨_,rfl⟩
     obtain⟨b2,e2⟩:∃ b,((Y:Int)==0)=b:=⟨_,rfl⟩
     obtain⟨b3,e3⟩:∃ b,((Y:Int)==(mx:Int)-1)=b:=⟨_,rfl⟩
     obtain⟨b4,e4⟩:∃ b,((X:Int)==(mx:Int)-1)=b:=⟨_,rfl⟩
     have hcor:corner (cs.length-1) X Y=((b1 && (b2 || b3)) || (b4 && b2)):=by
      have q1:b1=decide (X=0):=by rw [<- e1];exact beq0 X
      have q2:b2=decide (Y=0):=by rw [<- e2];exact beq0 Y
      have q3:b3=decide (Y=cs.length-1):=by
       rw [<- e3,HMX.out,Bool.eq_iff_iff,decide_eq_true_eq,beq_iff_eq];omega
      have q4:b4=decide (X=cs.length-1):=by
       rw [<- e4,HMX.out,Bool.eq_iff_iff,decide_eq_true_eq,beq_iff_eq];omega
      rw [q1,q2,q3,q4,Bool.eq_iff_iff]
      unfold corner
      simp only [Bool.or_eq_true,Bool.and_eq_true,decide_eq_true_eq]
     have HCOR:=Aside0.mk hcor
     clear hcy hmem k1 k2 hstep hcor
     have kr:=fun (W:World) (GG:Grid W g b n n (fun x y=>alAny cs X Y x y || fpBase n x y))=>gridRegionI W g b n n (cy-2) (cx-2) 5 5 ((cy:Int)-2) ((cx:Int)-2) 5 5 _ GG (by omega) (by omega) (by omega) (by omega) (by omega) (by omega) (by omega) (by omega) (by omega) (by omega)
     have HKR:=Aside0.mk kr
     clear kr
     cases b1<;>cases b2<;>cases b3<;>cases b4
     all_goals
      go_wp2_with (go_at_call 142;refine (HKR.out wr HGY.out).mono ?_;rintro e w' ⟨rfl,hG5,hT5⟩)
      go_roundw
      case rel=>first
       | exact⟨Y+1,by omega,by go_num,⟨HGY.out.congr fun x y _ _=>by rw [HSTEP.out,HCOR.out];rfl⟩,HTY⟩
       | exact⟨Y+1,by omega,by go_num,⟨hG5.congr fun x y _ _=>by rw [HSTEP.out,HCOR.out,HCX.out,HCY.out,Bool.or_assoc];rfl⟩,⟨HTY.out.trans hT5⟩⟩
      case measure=>simp [intOf];omega
    ·have:Y=mx:=by omega
     subst this
     go_wp2
     go_roundw
     case rel=>exact⟨X+1,by omega,by go_num,⟨HGY.out.congr fun x y _ _=>by rw [<- alAny_row,HMX.out]⟩,HTY⟩
     case measure=>simp [intOf];omega
  ·have:X=mx:=by omega
   subst this
   clear k1 k2
   have HGA:=Aside0.mk (show Grid wr g b n n (fun x y=>alB cs x y || fpBase n x y) from HGX.out.congr fun x y _ _=>by rw [<- HMX.out,alAny_all])
   go_wp2_with fail
   refine (gridRegionI wr g b n n 6 9 1 (n-17) _ _ _ _ _ HGA.out (by omega) (by omega) (by omega) (by omega) (by omega) (by omega) (by omega) (by omega) (by omega) (by omega)).mono ?_
   rintro e w6 ⟨rfl,hG6,hT6⟩
   have HG6:=Aside0.mk hG6
   have HT6:=Aside0.mk (HTX.out.trans hT6)
   clear hG6 hT6
   go_wp2_with fail
   refine (gridRegionI w6 g b n n 9 6 (n-17) 1 _ _ _ _ _ HG6.out (by omega) (by omega) (by omega) (by omega) (by omega) (by omega) (by omega) (by omega) (by omega) (by omega)).mono ?_
   rintro e w7 ⟨rfl,hG7,hT7⟩
   have HG7:=Aside0.mk hG7
   have HT7:=Aside0.mk (HT6.out.trans hT7)
   clear hG7 hT7
   obtain⟨k1,k2⟩:=HVER.out w7 HT7.out
   have c0:w7.cell? ⟨pv,0,none⟩=some (.int .i64 (v:Int)):=k1.cell 0
   clear k1 k2
   have hbel:∀ W,Turn w1 W b->Below w.heap.size w W:=fun W hT=>HB1.out.trans (hT.below HLT.out)
   have HBEL:=Aside0.mk hbel
   clear hbel
   by_cases h6:6<v
   ·go_wp2_with fail
    refine (gridRegionI w7 g b n n (n-11) 0 3 6 _ _ _ _ _ HG7.out (by omega) (by omega) (by omega) (by omega) (by omega) (by omega) (by omega) (by omega) (by omega) (by omega)).mono ?_
    rintro e w8 ⟨rfl,hG8,hT8⟩
    have HG8:=Aside0.mk hG8
    have HT8:=Aside0.mk (HT7.out.trans hT8)
    clear hG8 hT8
    go_wp2_with fail
    refine (gridRegionI w8 g b n n 0 (n-11) 6 3 _ _ _ _ _ HG8.out (by omega) (by omega) (by omega) (by omega) (by omega) (by omega) (by omega) (by omega) (by omega) (by omega)).mono ?_
    rintro e w9 ⟨rfl,hG9,hT9⟩
    have HG9:=Aside0.mk hG9
    have HT9:=Aside0.mk (HT8.out.trans hT9)
    clear hG9 hT9
    go_wp2_with fail
    go_ret2
    refine⟨g,b,rfl,by have:=HLT.out;omega,by have:=HGE.out;have:=HBE.out;omega,HG9.out.congr fun x y _ _=>?_,HBEL.out w9 HT9.out⟩
    have hn:=HN.out
    unfold fpB fpBase
    rw [HCD.out,decide_eq_true h6,show 4*v+9=n-8 by omega,show 4*v+6=n-11 by omega,show 4*v=n-17 by omega,Bool.true_and]
    ac_rfl
   ·go_wp2_with fail
    go_ret2
    refine⟨g,b,rfl,by have:=HLT.out;omega,by have:=HGE.out;have:=HBE.out;omega,HG7.out.congr fun x y _ _=>?_,HBEL.out w7 HT7.out⟩
    have hn:=HN.out
    unfold fpB fpBase
    rw [HCD.out,decide_eq_false h6,show 4*v+9=n-8 by omega,show 4*v=n-17 by omega,Bool.false_and,Bool.or_false]
    ac_rfl
theorem bitQ_nat (x b:Nat)(hx:x<2147483648)(hb:b<64):bitQ (x:Int) (b:Int)=x.testBit b:=by
 unfold bitQ shr
 have e1:((x:Int)/2 ^ min ((b:Nat):Int).toNat (IntKind.bits .i64))=((x/2 ^ b:Nat):Int):=by
  rw [Int.toNat_natCast,show min b (IntKind.bits .i64)=b from Nat.min_eq_left (by show b<=64;omega),Int.natCast_ediv,Int.natCast_pow]
  rfl
 have hle:x/2 ^ b<=x:=Nat.div_le_self _ _
 have e2:=i64_and_nat (x/2 ^ b) 1 (by omega) (by omega)
 rw [e1,show (1:Int)=((1:Nat):Int) from rfl,e2,Nat.and_one_is_mod,Nat.testBit_eq_decide_div_mod_eq]
 by_cases h:x/2 ^ b%2=1
 ·rw [h];rfl
 ·rw [show x/2 ^ b%2=0 by omega];rfl
theorem nacc_congr {g h:Nat->Bool}:∀ n,(∀ k,k<n->g k=h k)->nacc g n=nacc h n:=by
 intro n
 induction n with
 | zero=>intro _;rfl
 | succ n ih=>intro e;rw [nacc,nacc,ih (fun k hk=>e k (by omega)),e n (by omega)]
theorem nacc_num (x n:Nat)(hx:x<2 ^ n):nacc (fun k=>x.testBit (n-1-k)) n=x:=by
 have h:∀ k,k<=n->nacc (fun k=>x.testBit (n-1-k)) k=x/2 ^ (n-k):=by
  intro k
  induction k with
  | zero=>intro _;rw [nacc,Nat.sub_zero,Nat.div_eq_of_lt hx]
  | succ k ih=>
   intro hk
   rw [nacc,ih (by omega),show n-k=(n-(k+1))+1 by omega,Nat.pow_succ,<- Nat.div_div_eq_div_mul,show n-1-k=n-(k+1) by omega,Nat.testBit_eq_decide_div_mod_eq]
   by_cases e:x/2 ^ (n-(k+1))%2=1
   ·rw [decide_eq_true e]
    show 2*(x/2 ^ (n-(k+1))/2)+1=_
    omega
   ·rw [decide_eq_false e]
    show 2*(x/2 ^ (n-(k+1))/2)+0=_
    omega
 have:=h n (Nat.le_refl _)
 rwa [Nat.sub_self,Nat.pow_zero,Nat.div_one] at this
theorem cellOf_rows (n:Nat)(cf:Nat->Nat->Bool)(x y:Nat)(hx:x<n)(hy:y<n):cellOf (rowsOfB n cf n) x y=cf y x:=by
 unfold cellOf rowsOfB
 rw [List.getD_eq_getElem?_getD,List.getD_eq_getElem?_getD,List.getElem?_map,List.getElem?_range hy]
 simp only [Option.map_some,Option.getD_some]
 unfold rowOfB
 rw [List.getElem?_map,List.getElem?_range hx]
 rfl
theorem rowsOfB_square (n:Nat)(cf:Nat->Nat->Bool)(h1:1<=n)(h2:n<=1000):Square (rowsOfB n cf n) n:=by
 have hrow:∀ y,y<n->((rowsOfB n cf n).getD y []).length=n:=by
  intro y hy
  unfold rowsOfB
  rw [List.getD_eq_getElem?_getD,List.getElem?_map,List.getElem?_range hy]
  simp [rowOfB]
 exact⟨by simp [rowsOfB],hrow 0 (by omega),fun y hy=>by rw [hrow y hy];omega⟩
structure Pats (F v:Nat)(f:Nat->Nat->Bool):Prop where
 fmt:∀ r c:Nat,r<17+4*v->c<17+4*v->∀ b:Nat,fmtP (17+4*(v:Int)) r c=b->f c r=F.testBit b
 ver:7<=v->∀ r t:Nat,r<6->t<3->f (17+4*v-11+t) r=(verTabN.getD (v-7) 0).testBit (r*3+t)
theorem pats_fmt1 (F v:Nat)(hv:1<=v/\v<=40)(f:Nat->Nat->Bool)(h:Pats F v f)(hF:F<32768):nacc (fat1 f) 15=F:=by
 have e:nacc (fat1 f) 15=nacc (fun k=>F.testBit (15-1-k)) 15:=by
  apply nacc_congr
  intro k hk
  unfold fat1
  by_cases h1:k<6
  ·rw [if_pos h1]
   exact h.fmt 8 k (by omega) (by omega) _ (by unfold fmtP;rw [if_neg (by omega),if_neg (by omega),if_neg (by omega),if_neg (by omega),if_pos (by omega)]<;>omega)
  ·rw [if_neg h1]
   by_cases h2:k=6
   ·subst h2
    rw [if_pos rfl]
    exact h.fmt 8 7 (by omega) (by omega) _ (by unfold fmtP;rw [if_neg (by omega),if_neg (by omega),if_neg (by omega),if_pos (by omega)]<;>omega)
   ·rw [if_neg h2]
    by_cases h3:k=7
    ·subst h3
     rw [if_pos rfl]
     exact h.fmt 8 8 (by omega) (by omega) _ (by unfold fmtP;rw [if_neg (by omega),if_neg (by omega),if_pos (by omega)]<;>omega)
    ·rw [if_neg h3]
     by_cases h4:k=8
     ·subst h4
      rw [if_pos rfl]
      exact h.fmt 7 8 (by omega) (by omega) _ (by unfold fmtP;rw [if_neg (by omega),if_pos (by omega)]<;>omega)
     ·rw [if_neg h4]
      exact h.fmt (14-k) 8 (by omega) (by omega) _ (by unfold fmtP;rw [if_pos (by omega)]<;>omega)
 rw [e]
 exact nacc_num F 15 hF
theorem pats_fmt2 (F v:Nat)(hv:1<=v/\v<=40)(f:Nat->Nat->Bool)(h:Pats F v f)(hF:F<32768):nacc (fat2 f (17+4*v)) 15=F:=by
 have e:nacc (fat2 f (17+4*v)) 15=nacc (fun k=>F.testBit (15-1-k)) 15:=by
  apply nacc_congr
  intro k hk
  unfold fat2
  by_cases h1:k<7
  ·rw [if_pos h1]
   exact h.fmt (17+4*v-1-k) 8 (by omega) (by omega) _ (by unfold fmtP;rw [if_neg (by omega),if_neg (by omega),if_neg (by omega),if_neg (by omega),if_neg (by omega),if_neg (by omega),if_pos (by omega)]<;>omega)
  ·rw [if_neg h1]
   exact h.fmt 8 (17+4*v-15+k) (by omega) (by omega) _ (by unfold fmtP;rw [if_neg (by omega),if_neg (by omega),if_neg (by omega),if_neg (by omega),if_neg (by omega),if_pos (by omega)]<;>omega)
 rw [e]
 exact nacc_num F 15 hF
theorem vacc_nacc (f:Nat->Nat->Bool)(n:Nat):∀ k,vacc f n k=nacc (fun k=>f (n-9-k%3) (5-k/3)) k:=by
 intro k
 induction k with
 | zero=>rfl
 | succ k ih=>rw [vacc,nacc,ih]
theorem verTab_lim2 (i:Nat):verTabN.getD i 0<2 ^ 18:=by
 by_cases h:i<34
 ·exact verTab_lim ⟨i,h⟩
 ·rw [List.getD_eq_getElem?_getD,List.getElem?_eq_none (by show 34<=i;omega)]
  decide
theorem pats_ver (F v:Nat)(hv:1<=v/\v<=40)(f:Nat->Nat->Bool)(h:Pats F v f)(h7:7<=v):vacc f (17+4*v) 18=verTabN.getD (v-7) 0:=by
 rw [vacc_nacc]
 have e:nacc (fun k=>f (17+4*v-9-k%3) (5-k/3)) 18=nacc (fun k=>(verTabN.getD (v-7) 0).testBit (18-1-k)) 18:=by
  apply nacc_congr
  intro k hk
  have:=h.ver h7 (5-k/3) (2-k%3) (by omega) (by omega)
  rw [show 17+4*v-11+(2-k%3)=17+4*v-9-k%3 by omega,show (5-k/3)*3+(2-k%3)=18-1-k by omega] at this
  exact this
 rw [e]
 exact nacc_num _ 18 (verTab_lim2 _)
theorem pats_verOK (F v:Nat)(hv:1<=v/\v<=40)(f:Nat->Nat->Bool)(h:Pats F v f):VerOK f v:=by
 intro h7
 rw [pats_ver F v hv f h h7,hd_self]
 omega
theorem vbits_nat:∀ v:Fin 34,vbits (v.val+7)=((verTabN.getD v.val 0:Nat):Int):=by decide +kernel
theorem pats_of_cells (F v:Nat)(hv:1<=v/\v<=40)(hF:F<32768)(cf:Nat->Nat->Bool)(h:∀ r c:Nat,r<17+4*v->c<17+4*v->CellIs (F:Int) v r c (cf r c)):Pats F v (fun x y=>cf y x):=by
 refine⟨?_,?_⟩
 ·intro r c hr hc b hb
  have:=cell_fmt (F:Int) v hv r c _ (h r c hr hc) (by omega) (by omega) (by rw [hb];omega)
  show cf r c=_
  rw [this,hb,bitQ_nat F b (by omega)]
  unfold fmtP at hb
  split at hb
  ·omega
  ·repeat (split at hb<;>first | omega | skip)
 ·intro h7 r t hr ht
  have:=cell_ver (F:Int) v ⟨h7,hv.2⟩ r t hr ht _ (h r (17+4*v-11+t) (by omega) (by omega))
  show cf r _=_
  have hvb:=vbits_nat ⟨v-7,by omega⟩
  simp only [show v-7+7=v by omega] at hvb
  rw [this,hvb,bitQ_nat _ _ (Nat.lt_trans (verTab_lim2 _) (by decide)) (by omega)]
theorem Pats.congr {F v:Nat}{f h:Nat->Nat->Bool}(P:Pats F v f)(e:∀ x y,x<17+4*v->y<17+4*v->f x y=h x y)(hv:1<=v):Pats F v h :=
 ⟨fun r c hr hc b hb=>(e c r hc hr).symm.trans (P.fmt r c hr hc b hb),fun h7 r t hr ht=>(e _ r (by omega) (by omega)).symm.trans (P.ver h7 r t hr ht)⟩
def byteAt (L:List Bool)(i:Nat):Nat:=nacc (fun k=>L.getD (8*i+k) false) 8
def accB (L:List Bool):Nat:=nacc (fun k=>L.getD (8*(L.length/8)+k) false) (L.length%8)
def bytesTo (T:Nat)(L:List Bool):List Nat:=(List.range (L.length/8)).map (byteAt L)++List.replicate (T-L.length/8) 0
theorem getD_snoc_lt (L:List Bool)(b:Bool)(i:Nat)(h:i<L.length):(L++[b]).getD i false=L.getD i false:=by
 rw [List.getD_eq_getElem?_getD,List.getD_eq_getElem?_getD,List.getElem?_append_left h]
theorem getD_snoc_eq (L:List Bool)(b:Bool):(L++[b]).getD L.length false=b:=by
 rw [List.getD_eq_getElem?_getD,List.getElem?_append_right (Nat.le_refl _),Nat.sub_self]
 rfl
theorem byteAt_snoc (L:List Bool)(b:Bool)(i:Nat)(h:i<L.length/8):byteAt (L++[b]) i=byteAt L i:=by
 unfold byteAt
 exact nacc_congr 8 fun k hk=>getD_snoc_lt L b _ (by omega)
theorem accB_lt7 (L:List Bool):accB L<128:=by
 unfold accB
 have h1:=nacc_lt (fun k=>L.getD (8*(L.length/8)+k) false) (L.length%8)
 have h2:2 ^ (L.length%8)<=2 ^ 7:=Nat.pow_le_pow_right (by omega) (by omega)
 omega
theorem acc_full (L:List Bool)(b:Bool)(h:L.length%8=7):2*accB L+b.toNat=byteAt (L++[b]) (L.length/8):=by
 unfold byteAt accB
 rw [h,nacc]
 congr 1
 ·congr 1
  exact nacc_congr 7 fun k hk=>(getD_snoc_lt L b _ (by omega)).symm
 ·show b.toNat=((L++[b]).getD (8*(L.length/8)+7) false).toNat
  rw [show 8*(L.length/8)+7=L.length by omega,getD_snoc_eq]
theorem acc_more (L:List Bool)(b:Bool)(h:L.length%8≠7):accB (L++[b])=2*accB L+b.toNat/\(L++[b]).length/8=L.length/8/\(L++[b]).length%8=L.length%8+1:=by
 have hl:(L++[b]).length=L.length+1:=by simp
 have h1:(L++[b]).length/8=L.length/8:=by omega
 have h2:(L++[b]).length%8=L.length%8+1:=by omega
 refine⟨?_,h1,h2⟩
 unfold accB
 rw [h1,h2,nacc]
 congr 1
 ·congr 1
  exact nacc_congr _ fun k hk=>getD_snoc_lt L b _ (by omega)
 ·show ((L++[b]).getD (8*(L.length/8)+L.length%8) false).toNat=b.toNat
  rw [show 8*(L.length/8)+L.length%8=L.length by omega,getD_snoc_eq]
theorem acc_zero (L:List Bool)(h:L.length%8=0):accB L=0:=by unfold accB;rw [h];rfl
theorem bytesTo_len (T:Nat)(L:List Bool)(h:L.length/8<=T):(bytesTo T L).length=T:=by unfold bytesTo;simp;omega
theorem bytesTo_more (T:Nat)(L:List Bool)(b:Bool)(h:L.length%8≠7):bytesTo T (L++[b])=bytesTo T L:=by
 unfold bytesTo
 rw [(acc_more L b h).2.1]
 congr 1
 apply List.map_congr_left
 intro i hi
 rw [List.mem_range] at hi
 exact byteAt_snoc L b i hi
theorem bytesTo_full (T:Nat)(L:List Bool)(b:Bool)(h:L.length%8=7)(hT:L.length/8<T):(bytesTo T L).set (L.length/8) (2*accB L+b.toNat)=bytesTo T (L++[b]):=by
 have hl:(L++[b]).length=L.length+1:=by simp
 have h1:(L++[b]).length/8=L.length/8+1:=by omega
 unfold bytesTo
 rw [h1,acc_full L b h]
 have hm:((List.range (L.length/8)).map (byteAt L)).length=L.length/8:=by simp
 rw [List.set_append_right _ _ (by omega),hm,Nat.sub_self,show T-L.length/8=(T-(L.length/8+1))+1 by omega,List.replicate_succ,List.set_cons_zero,List.range_succ,List.map_append,List.append_assoc]
 congr 1
 apply List.map_congr_left
 intro i hi
 rw [List.mem_range] at hi
 exact (byteAt_snoc L b i hi).symm
theorem colPair_mono (n:Nat)(g:Nat->Nat->Bool)(rt:Nat)(up:Bool)(c:Nat):∀ d,(colPair n g rt up c).length<=(colPair n g rt up (c+d)).length:=by
 intro d
 induction d with
 | zero=>exact Nat.le_refl _
 | succ d ih=>
  rw [<- Nat.add_assoc,colPair,List.length_append]
  omega
def pairTo (g:Nat->Nat->Bool)(rt r t:Nat):List (Nat×Nat):=([(r,rt),(r,rt-1)].take t).filter fun p=>!g p.2 p.1
theorem pairTo_two (g:Nat->Nat->Bool)(rt r:Nat):pairTo g rt r 2=pairAt g rt r:=rfl
theorem pairTo_step (g:Nat->Nat->Bool)(rt r t:Nat)(h:t<2):pairTo g rt r (t+1)=pairTo g rt r t++(if g (rt-t) r then [] else [(r,rt-t)]):=by
 match t,h with
 | 0,_=>
  show [(r,rt)].filter _=[]++_
  simp only [List.filter_cons,List.filter_nil,List.nil_append,Nat.sub_zero]
  cases g rt r<;>rfl
 | 1,_=>
  show [(r,rt),(r,rt-1)].filter _=[(r,rt)].filter _++_
  simp only [List.filter_cons,List.filter_nil]
  cases g rt r<;>cases g (rt-1) r<;>rfl
theorem pairTo_le (g:Nat->Nat->Bool)(rt r t:Nat)(h:t<=2):(pairTo g rt r t).length<=(pairAt g rt r).length:=by
 match t,h with
 | 0,_=>exact Nat.zero_le _
 | 1,_=>
  rw [<- pairTo_two,pairTo_step g rt r 1 (by omega),List.length_append]
  omega
 | 2,_=>exact Nat.le_refl _
def bitsAt (f:Nat->Nat->Bool)(l:List (Nat×Nat)):List Bool:=l.map fun p=>f p.2 p.1
theorem bitsAt_len (f:Nat->Nat->Bool)(l:List (Nat×Nat)):(bitsAt f l).length=l.length:=by simp [bitsAt]
theorem bitsAt_append (f:Nat->Nat->Bool)(l k:List (Nat×Nat)):bitsAt f (l++k)=bitsAt f l++bitsAt f k:=by simp [bitsAt]
theorem tot_look:∀ v:Fin 40,rowTot (verRow (v.val+1))=((roomN (v.val+1)/8:Nat):Int)/\roomN (v.val+1)<=40000:=by decide +kernel
theorem tot_row (v:Nat)(hv:1<=v/\v<=40):rowTot (verRow v)=((roomN v/8:Nat):Int)/\roomN v<=40000:=by
 have:=tot_look ⟨v-1,by omega⟩
 simp only [show v-1+1=v by omega] at this
 exact this
structure Upd2 (w w':World)(g b:Nat):Prop where
 os:w'.os=w.os
 tape:w'.tape=w.tape
 output:w'.output=w.output
 size:w.heap.size<=w'.heap.size
 block:∀ k,k<w.heap.size->k≠g->k≠b->w'.heap[k]? = w.heap[k]?
theorem Upd2.of {w w':World}{g:Nat}(h:Upd w w' g)(b:Nat):Upd2 w w' g b:=⟨h.os,h.tape,h.output,h.size,fun k hk h1 _=>h.block k hk h1⟩
theorem Upd2.of' {w w':World}{b:Nat}(h:Upd w w' b)(g:Nat):Upd2 w w' g b:=⟨h.os,h.tape,h.output,h.size,fun k hk _ h2=>h.block k hk h2⟩
theorem Upd2.trans {x y z:World}{g b:Nat}(h:Upd2 x y g b)(k:Upd2 y z g b):Upd2 x z g b :=
 ⟨k.os.trans h.os,k.tape.trans h.tape,k.output.trans h.output,Nat.le_trans h.size k.size,fun i hi h1 h2=>(k.block i (Nat.lt_of_lt_of_le hi h.size) h1 h2).trans (h.block i hi h1 h2)⟩
theorem Upd2.blk {w w':World}{g b q:Nat}{t:TypeId}{cs:Array Value}(h:Upd2 w w' g b)(hq:Blk w q t cs)(h1:q≠g)(h2:q≠b):Blk w' q t cs:=(h.block q hq.lt h1 h2).trans hq
theorem Upd2.below {w0 w w':World}{g b B:Nat}(h:Upd2 w w' g b)(hb:Below B w0 w)(hg:B<=g)(hb2:B<=b)(hB:B<=w.heap.size):Below B w0 w' :=
 ⟨h.os.trans hb.os,h.tape.trans hb.tape,h.output.trans hb.output,Nat.le_trans hb.size h.size,fun k hk=>(h.block k (by omega) (by omega) (by omega)).trans (hb.block k hk)⟩
theorem VerAt.upd2 {w w':World}{p b pv:Nat}{n:Int}{v:VerRow}{cs cs2:Array Value}(h:VerAt w pv n v)(hu:Upd2 w w' p b)(hp:Blk w p 144 cs)(hb:Blk w b 214 cs2):VerAt w' pv n v:=by
 obtain⟨gc,ge,g,h1,h2,h3,h4⟩:=h
 exact⟨gc,ge,g,hu.blk h1 (blk_ne h1 hp (by decide)) (blk_ne h1 hb (by decide)),hu.blk h2 (blk_ne h2 hp (by decide)) (blk_ne h2 hb (by decide)),hu.blk h3 (blk_ne h3 hp (by decide)) (blk_ne h3 hb (by decide)),
  fun l hl=>hu.blk (h4 l hl) (blk_ne (h4 l hl) hp (by decide)) (blk_ne (h4 l hl) hb (by decide))⟩
def UBlk (w:World)(g:Nat)(xs:List Nat):Prop:=Blk w g 5 (nums .u8 (ints xs)).toArray
theorem UBlk.cell {w:World}{g:Nat}{xs:List Nat}(h:UBlk w g xs)(i:Nat)(hi:i<xs.length):w.cell? ⟨g,i,none⟩=some (.int .u8 ((xs.getD i 0:Nat):Int)):=by
 have:=Blk.ucell h (i:Int) (by omega) (by rw [ints_len];omega)
 rw [Int.toNat_natCast] at this
 rw [this,<- ints_get]
 unfold rd
 rw [Int.toNat_natCast]
theorem UBlk.set {w:World}{g:Nat}{xs:List Nat}(h:UBlk w g xs)(i v:Nat):UBlk (w.setCell ⟨g,i,none⟩ (.int .u8 (v:Int))) g (xs.set i v):=by
 have:=Blk.uset h i (v:Int)
 unfold UBlk
 rw [show ints (xs.set i v)=(ints xs).set i (v:Int) from by simp [ints,List.map_set]]
 exact this
theorem info5u:(Tryz.prog.info? 5).map (fun i=>(i.zero,i.size,i.bytes))=some (some (.int .u8 0),1,1):=by kernel_rfl
theorem make_u8 (n:Nat)(h:n<=1000000000)(w:World):(Instr.makeSlice 26 (.int .i64 (n:Int)) (.int .i64 (n:Int))).run Tryz.prog w=.ok (.slice (some ⟨w.heap.size,0,none⟩) n n) (w.alloc (.cells (nums .u8 (ints (List.replicate n 0))).toArray 5)):=by
 obtain⟨i,hi,hz,hs,hb⟩:=info_parts info5u
 have:=run_make_rowN (P:=Tryz.prog) 26 5 i (.int .u8 0) Tryz.underlying26 hi hz .i64 .i64 n n (Nat.le_refl _) (by rw [hb];omega) (by omega) w
 have e:madeCells (Value.int .u8 0).cells (n*1)=(nums .u8 (ints (List.replicate n 0))).toArray:=by
  apply Array.toList_inj.1
  rw [Nat.mul_one]
  exact (toList_madeCells_one _ _).trans (by simp [nums,ints])
 rw [this,hs,e]
theorem verTotal (w:World)(pv n T:Nat)(v:VerRow)(h:VerAt w pv (n:Int) v)(hT:rowTot v=(T:Int)):Calls Tryz.prog 93 #[.pointer (some ⟨pv,0,none⟩)] w fun e w'=>e=.returned (.int .i64 (T:Int))/\w=w':=by
 obtain⟨gc,ge,g,h1,_⟩:=h
 rw [hT] at h1
 have c3:w.cell? ⟨pv,3,none⟩=some (.int .i64 (T:Int)):=h1.cell 3
 clear h1 hT
 go_enter Tryz.func93,Tryz.ntmps93
 go_wp2
 go_ret
 exact⟨rfl,rfl⟩
def lvIx (l:Nat):Nat:=if l=0 then 1 else if l=1 then 0 else if l=2 then 3 else 2
def lvOf (v l:Nat):Int×List (Int×Int):=(verRow v).2.getD (lvIx l) (0,[])
def lvE (v l:Nat):Nat:=(lvOf v l).1.toNat
def lvC (v l:Nat):Nat:=((lvOf v l).2.getD 0 (0,0)).1.toNat
def lvD (v l:Nat):Nat:=((lvOf v l).2.getD 0 (0,0)).2.toNat
def lvC2 (v l:Nat):Nat:=((lvOf v l).2.getD 1 (0,0)).1.toNat
structure Lay (v l e c d c2:Nat):Prop where
 row:lvOf v l=((e:Int),if c2=0 then [((c:Int),(d:Int))] else [((c:Int),(d:Int)),((c2:Int),((d+1:Nat):Int))])
 e1:1<=e
 e2:e<=100
 c1:1<=c
 cc:c+c2<=100
 d1:1<=d
 d2:d<=200
 tot:d*(c+c2)+c2+e*(c+c2)=roomN v/8
theorem lay_look:∀ v:Fin 40,∀ l:Fin 4,(lvOf (v.val+1) l.val=((lvE (v.val+1) l.val:Int),if lvC2 (v.val+1) l.val=0 then [((lvC (v.val+1) l.val:Int),(lvD (v.val+1) l.val:Int))] else [((lvC (v.val+1) l.val:Int),(lvD (v.val+1) l.val:Int)),((lvC2 (v.val+1) l.val:Int),((lvD (v.val+1) l.val+1:Nat):Int))]))/\
  1<=lvE (v.val+1) l.val/\lvE (v.val+1) l.val<=100/\1<=lvC (v.val+1) l.val/\lvC (v.val+1) l.val+lvC2 (v.val+1) l.val<=100/\1<=lvD (v.val+1) l.val/\lvD (v.val+1) l.val<=200/\
  ((lvD (v.val+1) l.val*(lvC (v.val+1) l.val+lvC2 (v.val+1) l.val)+lvC2 (v.val+1) l.val+lvE (v.val+1) l.val*(lvC (v.val+1) l.val+lvC2 (v.val+1) l.val):Nat):Int)=rowTot (verRow (v.val+1)):=by decide +kernel
theorem lay_at (v l:Nat)(hv:1<=v/\v<=40)(hl:l<4):Lay v l (lvE v l) (lvC v l) (lvD v l) (lvC2 v l):=by
 have h:=lay_look ⟨v-1,by omega⟩ ⟨l,hl⟩
 simp only [show v-1+1=v by omega] at h
 obtain⟨h1,h2,h3,h4,h5,h6,h7,h8⟩:=h
 refine⟨h1,h2,h3,h4,h5,h6,h7,?_⟩
 have:=(tot_row v hv).1
 rw [this] at h8
 exact Int.ofNat.inj h8
section
variable (c d c2 e:Nat)
def dl (j:Nat):Nat:=if j<c then d else d+1
def posOf (j x:Nat):Nat:=if x<d then x*(c+c2)+j else if x<dl c d j then d*(c+c2)+(j-c) else d*(c+c2)+c2+(x-dl c d j)*(c+c2)+j
def fill (ws:List Nat)(off j:Nat):List Nat:=(List.range (dl c d j+e)).map fun x=>if posOf c d c2 j x<off then ws.getD (posOf c d c2 j x) 0 else 0
end
theorem mulAdd_inj {n X Y i j:Nat}(hi:i<n)(hj:j<n)(h:X*n+i=Y*n+j):X=Y/\i=j:=by
 have h1:=congrArg (·/n) h
 have h2:=congrArg (·%n) h
 rw [Nat.add_comm (X*n),Nat.add_comm (Y*n),Nat.add_mul_div_right _ _ (by omega),Nat.add_mul_div_right _ _ (by omega),Nat.div_eq_of_lt hi,Nat.div_eq_of_lt hj] at h1
 rw [Nat.add_comm (X*n),Nat.add_comm (Y*n),Nat.add_mul_mod_self_right,Nat.add_mul_mod_self_right,Nat.mod_eq_of_lt hi,Nat.mod_eq_of_lt hj] at h2
 omega
theorem mulAdd_lt {n X d i:Nat}(hi:i<n)(h:X<d):X*n+i<d*n:=by
 have:=Nat.mul_le_mul_right n (show X+1<=d by omega)
 rw [Nat.add_mul,Nat.one_mul] at this
 omega
theorem posOf_lt {c d c2 e j x:Nat}(hj:j<c+c2)(hx:x<dl c d j+e):posOf c d c2 j x<d*(c+c2)+c2+e*(c+c2):=by
 unfold posOf
 split
 ·rename_i h
  have:=mulAdd_lt hj h
  omega
 ·split
  ·rename_i h1 h2
   have:j-c<c2:=by
    unfold dl at h2
    split at h2<;>omega
   omega
  ·rename_i h1 h2
   have:=mulAdd_lt hj (show x-dl c d j<e by omega)
   omega
theorem posOf_inj {c d c2 j x j' x':Nat}(hj:j<c+c2)(hj':j'<c+c2)(h:posOf c d c2 j x=posOf c d c2 j' x'):j=j'/\x=x':=by
 have k1:x<d->x*(c+c2)+j<d*(c+c2):=fun hx=>mulAdd_lt hj hx
 have k2:x'<d->x'*(c+c2)+j'<d*(c+c2):=fun hx=>mulAdd_lt hj' hx
 have t1:¬ x<d->x<dl c d j->c<=j/\x=d:=by
  intro a b
  unfold dl at b
  split at b<;>omega
 have t2:¬ x'<d->x'<dl c d j'->c<=j'/\x'=d:=by
  intro a b
  unfold dl at b
  split at b<;>omega
 unfold posOf at h
 by_cases a1:x<d
 ·rw [if_pos a1] at h
  by_cases b1:x'<d
  ·rw [if_pos b1] at h
   have:=mulAdd_inj hj hj' h
   omega
  ·rw [if_neg b1] at h
   have:=k1 a1
   by_cases b2:x'<dl c d j'
   ·rw [if_pos b2] at h;omega
   ·rw [if_neg b2] at h;omega
 ·rw [if_neg a1] at h
  by_cases a2:x<dl c d j
  ·rw [if_pos a2] at h
   have u1:=t1 a1 a2
   by_cases b1:x'<d
   ·rw [if_pos b1] at h
    have:=k2 b1
    omega
   ·rw [if_neg b1] at h
    by_cases b2:x'<dl c d j'
    ·rw [if_pos b2] at h
     have u2:=t2 b1 b2
     omega
    ·rw [if_neg b2] at h;omega
  ·rw [if_neg a2] at h
   by_cases b1:x'<d
   ·rw [if_pos b1] at h
    have:=k2 b1
    omega
   ·rw [if_neg b1] at h
    by_cases b2:x'<dl c d j'
    ·rw [if_pos b2] at h
     have u2:=t2 b1 b2
     omega
    ·rw [if_neg b2] at h
     have:=mulAdd_inj hj hj' (show (x-dl c d j)*(c+c2)+j=(x'-dl c d j')*(c+c2)+j' by omega)
     obtain⟨r1,r2⟩:=this
     subst r2
     exact⟨rfl,by omega⟩
theorem fill_len (c d c2 e:Nat)(ws:List Nat)(off j:Nat):(fill c d c2 e ws off j).length=dl c d j+e:=by simp [fill]
theorem fill_zero (c d c2 e:Nat)(ws:List Nat)(j:Nat):fill c d c2 e ws 0 j=List.replicate (dl c d j+e) 0:=by
 unfold fill
 apply List.ext_getElem
 ·simp
 ·intro i h1 h2
  simp
theorem fill_set {c d c2 e:Nat}(ws:List Nat){off j x:Nat}(hj:j<c+c2)(hx:posOf c d c2 j x=off):fill c d c2 e ws (off+1) j=(fill c d c2 e ws off j).set x (ws.getD off 0):=by
 unfold fill
 apply List.ext_getElem
 ·simp
 ·intro i h1 h2
  rw [List.getElem_set]
  simp only [List.getElem_map,List.getElem_range]
  by_cases hxi:x=i
  ·subst hxi
   rw [if_pos rfl,hx,if_pos (by omega)]
  ·rw [if_neg hxi]
   have hne:posOf c d c2 j i≠off:=fun hc=>hxi (posOf_inj hj hj (hx.trans hc.symm)).2
   by_cases hlt:posOf c d c2 j i<off
   ·rw [if_pos hlt,if_pos (by omega)]
   ·rw [if_neg hlt,if_neg (by omega)]
theorem fill_other {c d c2 e:Nat}(ws:List Nat){off j x j':Nat}(hj:j<c+c2)(hj':j'<c+c2)(hx:posOf c d c2 j x=off)(hne:j'≠j):fill c d c2 e ws (off+1) j'=fill c d c2 e ws off j':=by
 unfold fill
 apply List.map_congr_left
 intro i hi
 have hne:posOf c d c2 j' i≠off:=fun hc=>hne (posOf_inj hj' hj (hc.trans hx.symm)).1
 by_cases hlt:posOf c d c2 j' i<off
 ·rw [if_pos hlt,if_pos (by omega)]
 ·rw [if_neg hlt,if_neg (by omega)]
def blockWords (c d c2 e:Nat)(ws:List Nat)(j:Nat):List Nat:=(List.range (dl c d j+e)).map fun x=>ws.getD (posOf c d c2 j x) 0
theorem fill_all {c d c2 e:Nat}(ws:List Nat){j:Nat}(hj:j<c+c2):fill c d c2 e ws (d*(c+c2)+c2+e*(c+c2)) j=blockWords c d c2 e ws j:=by
 unfold fill blockWords
 apply List.map_congr_left
 intro x hx
 rw [if_pos (posOf_lt hj (List.mem_range.1 hx))]
theorem ecbs_perO (w:World)(g o:Nat)(ec:Int)(h:w.cell? ⟨g,o,none⟩=some (.int .i64 ec)):Calls Tryz.prog 158 #[.pointer (some ⟨g,o,none⟩)] w fun e w'=>e=.returned (.int .i64 ec)/\w=w':=by
 go_enter Tryz.func158,Tryz.ntmps158
 go_wp2
 go_ret
 exact⟨rfl,rfl⟩
theorem ecbs_listO (w:World)(g o:Nat)(v:Value)(h:w.cell? ⟨g,o+1,none⟩=some v):Calls Tryz.prog 159 #[.pointer (some ⟨g,o,none⟩)] w fun e w'=>e=.returned v/\w=w':=by
 go_enter Tryz.func159,Tryz.ntmps159
 go_wp2
 go_ret
 exact⟨rfl,rfl⟩
def LevAt (w:World)(a o:Nat)(r:Int×List (Int×Int)):Prop:=∃ g,(∃ es,Blk w a 224 es/\es[o]? = some (.int .i64 r.1)/\es[o+1]? = some (.slice (some ⟨g,0,none⟩) r.2.length r.2.length))/\Blk w g 221 (ecbCells r.2).toArray
theorem LevAt.below {w w':World}{a o B:Nat}{r:Int×List (Int×Int)}(h:LevAt w a o r)(hb:Below B w w')(hB:w.heap.size<=B):LevAt w' a o r:=by
 obtain⟨g,⟨es,h1,h2,h3⟩,h4⟩:=h
 exact⟨g,⟨es,h1.below hb (by have:=h1.lt;omega),h2,h3⟩,h4.below hb (by have:=h4.lt;omega)⟩
theorem esCells_at (v:VerRow)(g:Nat->Nat)(h:v.2.length=4)(k:Nat)(hk:k<4):(esCells v g)[2*k]? = some (.int .i64 (v.2.getD k (0,[])).1)/\(esCells v g)[2*k+1]? = some (.slice (some ⟨g k,0,none⟩) (v.2.getD k (0,[])).2.length (v.2.getD k (0,[])).2.length):=by
 obtain⟨cs,bs⟩:=v
 obtain⟨b0,b1,b2,b3,rfl⟩:∃ b0 b1 b2 b3,bs=[b0,b1,b2,b3]:=by
  match bs,h with
  | [b0,b1,b2,b3],_=>exact⟨b0,b1,b2,b3,rfl⟩
 match k,hk with
 | 0,_=>exact⟨rfl,rfl⟩
 | 1,_=>exact⟨rfl,rfl⟩
 | 2,_=>exact⟨rfl,rfl⟩
 | 3,_=>exact⟨rfl,rfl⟩
theorem verRow_ok (v:Nat)(hv:1<=v/\v<=40):RowOK (verRow v):=by
 refine rows_ok _ ?_
 unfold verRow
 have hl:verTab.length=40:=by kernel_rfl
 rw [List.getD_eq_getElem?_getD,List.getElem?_eq_getElem (show v-1<verTab.length by omega)]
 exact List.getElem_mem _
theorem ecLevel (w:World)(pv v l:Nat)(h:VerAt w pv (v:Int) (verRow v))(hv:1<=v/\v<=40)(hl:l<4) :
  Calls Tryz.prog 170 #[.pointer (some ⟨pv,0,none⟩),.int .i64 (l:Int)] w fun e w'=>(∃ a o,e=.returned (.pointer (some ⟨a,o,none⟩))/\LevAt w a o (lvOf v l))/\w=w':=by
 obtain⟨gc,ge,g,h1,h2,h3,h4⟩:=h
 have hok:=verRow_ok v hv
 have c2:w.cell? ⟨pv,2,none⟩=some (.slice (some ⟨ge,0,none⟩) 4 4):=h1.cell 2
 have lev:∀ k,k<4->LevAt w ge (2*k) ((verRow v).2.getD k (0,[])):=fun k hk=>by
  obtain⟨e1,e2⟩:=esCells_at (verRow v) g hok.four k hk
  exact⟨g k,⟨_,h3,e1,e2⟩,h4 k hk⟩
 have LEV:=Aside0.mk lev
 clear h1 h2 h3 h4 hok lev hv
 go_enter Tryz.func170,Tryz.ntmps170
 match l,hl with
 | 0,_=>
  go_wp2
  go_ret
  exact⟨⟨ge,_,rfl,LEV.out 1 (by decide)⟩,rfl⟩
 | 1,_=>
  go_wp2
  go_ret
  exact⟨⟨ge,_,rfl,LEV.out 0 (by decide)⟩,rfl⟩
 | 2,_=>
  go_wp2
  go_ret
  exact⟨⟨ge,_,rfl,LEV.out 3 (by decide)⟩,rfl⟩
 | 3,_=>
  go_wp2
  go_ret
  exact⟨⟨ge,_,rfl,LEV.out 2 (by decide)⟩,rfl⟩
theorem newDB (w:World)(d:Int)(g n:Nat):Calls Tryz.prog 171 #[.int .i64 d,.slice (some ⟨g,0,none⟩) n n] w fun e w'=>e=.returned (.pointer (some ⟨w.heap.size,0,none⟩))/\w'=w.alloc (.cells #[.int .i64 d,.slice (some ⟨g,0,none⟩) n n] 270):=by
 go_enter Tryz.func171,Tryz.ntmps171
 go_wp2
 go_ret
 exact⟨rfl,rfl⟩
theorem dbNum (w:World)(p:Nat)(d:Int)(v:Value)(h:Blk w p 270 #[.int .i64 d,v]):Calls Tryz.prog 163 #[.pointer (some ⟨p,0,none⟩)] w fun e w'=>e=.returned (.int .i64 d)/\w=w':=by
 have c0:w.cell? ⟨p,0,none⟩=some (.int .i64 d):=h.cell 0
 clear h
 go_enter Tryz.func163,Tryz.ntmps163
 go_wp2
 go_ret
 exact⟨rfl,rfl⟩
theorem dbWords (w:World)(p:Nat)(d v:Value)(h:Blk w p 270 #[d,v]):Calls Tryz.prog 164 #[.pointer (some ⟨p,0,none⟩)] w fun e w'=>e=.returned v/\w=w':=by
 have c0:w.cell? ⟨p,1,none⟩=some v:=h.cell 1
 clear h
 go_enter Tryz.func164,Tryz.ntmps164
 go_wp2
 go_ret
 exact⟨rfl,rfl⟩
def ptrAt (k:Nat)(p:Nat->Nat)(i:Nat):Value:=if i<k then .pointer (some ⟨p i,0,none⟩) else .pointer none
def ptrRow (k n:Nat)(p:Nat->Nat):List Value:=(List.range n).map (ptrAt k p)
theorem info257p:(Tryz.prog.info? 257).map (fun i=>(i.zero,i.size,i.bytes))=some (some (.pointer none),1,8):=by kernel_rfl
theorem make_blocks (n:Nat)(h:n<=100000000)(w:World):(Instr.makeSlice 254 (.int .i64 (n:Int)) (.int .i64 (n:Int))).run Tryz.prog w=.ok (.slice (some ⟨w.heap.size,0,none⟩) n n) (w.alloc (.cells (ptrRow 0 n (fun _=>0)).toArray 257)):=by
 obtain⟨i,hi,hz,hs,hb⟩:=info_parts info257p
 have:=run_make_rowN (P:=Tryz.prog) 254 257 i (.pointer none) Tryz.underlying254 hi hz .i64 .i64 n n (Nat.le_refl _) (by rw [hb];omega) (by omega) w
 have e:madeCells (Value.pointer none).cells (n*1)=(ptrRow 0 n (fun _=>0)).toArray:=by
  apply Array.toList_inj.1
  rw [Nat.mul_one]
  refine (toList_madeCells_one _ _).trans ?_
  unfold ptrRow
  apply List.ext_getElem
  ·simp
  ·intro i h1 h2
   simp [ptrAt]
 rw [this,hs,e]
structure Dbs (w:World)(g B k n:Nat)(p q d:Nat->Nat)(cw:Nat->List Nat):Prop where
 row:Blk w g 257 (ptrRow k n p).toArray
 blk:∀ i,i<k->Blk w (p i) 270 #[.int .i64 (d i:Int),.slice (some ⟨q i,0,none⟩) (cw i).length (cw i).length]
 word:∀ i,i<k->UBlk w (q i) (cw i)
 fresh:∀ i,i<k->B<=q i
 inj:∀ i j,i<k->j<k->q i=q j->i=j
theorem Dbs.below {w w':World}{g B k n C:Nat}{p q d:Nat->Nat}{cw:Nat->List Nat}(h:Dbs w g B k n p q d cw)(hb:Below C w w')(hC:w.heap.size<=C):Dbs w' g B k n p q d cw :=
 ⟨h.row.below hb (by have:=h.row.lt;omega),fun i hi=>(h.blk i hi).below hb (by have:=(h.blk i hi).lt;omega),fun i hi=>Blk.below (h.word i hi) hb (by have:=Blk.lt (h.word i hi);omega),h.fresh,h.inj⟩
def upd1 (p:Nat->Nat)(k x:Nat)(i:Nat):Nat:=if i=k then x else p i
theorem ptrRow_set (k n x:Nat)(p:Nat->Nat)(hk:k<n):(ptrRow k n p).set k (.pointer (some ⟨x,0,none⟩))=ptrRow (k+1) n (upd1 p k x):=by
 unfold ptrRow
 apply List.ext_getElem
 ·simp
 ·intro i h1 h2
  rw [List.getElem_set]
  simp only [List.getElem_map,List.getElem_range]
  unfold ptrAt upd1
  by_cases hi:k=i
  ·subst hi
   rw [if_pos rfl,if_pos (by omega),if_pos rfl]
  ·rw [if_neg hi]
   by_cases hlt:i<k
   ·rw [if_pos hlt,if_pos (by omega),if_neg (by omega)]
   ·rw [if_neg hlt,if_neg (by omega)]
theorem Dbs.add {w:World}{g B k n:Nat}{p q d:Nat->Nat}{cw:Nat->List Nat}(h:Dbs w g B k n p q d cw)(hk:k<n)(hB:B<=w.heap.size) :
  Dbs (((w.alloc (.cells (nums .u8 (ints (cw k))).toArray 5)).alloc (.cells #[.int .i64 (d k:Int),.slice (some ⟨w.heap.size,0,none⟩) (cw k).length (cw k).length] 270)).setCell ⟨g,k,none⟩ (.pointer (some ⟨w.heap.size+1,0,none⟩))) g B (k+1) n (upd1 p k (w.heap.size+1)) (upd1 q k w.heap.size) d cw:=by
 obtain⟨w1,hw1⟩:∃ w1,w1=w.alloc (.cells (nums .u8 (ints (cw k))).toArray 5):=⟨_,rfl⟩
 obtain⟨w2,hw2⟩:∃ w2,w2=w1.alloc (.cells #[.int .i64 (d k:Int),.slice (some ⟨w.heap.size,0,none⟩) (cw k).length (cw k).length] 270):=⟨_,rfl⟩
 rw [<- hw1,<- hw2]
 have hb1:Below w.heap.size w w1:=by rw [hw1];exact below_alloc (Below.refl _ _) _
 have hs1:w1.heap.size=w.heap.size+1:=by rw [hw1];simp
 have hb2:Below w.heap.size w w2:=by rw [hw2];exact below_alloc hb1 _
 have n1:UBlk w1 w.heap.size (cw k):=by rw [hw1];exact Blk.new _ _ _
 have n1':UBlk w2 w.heap.size (cw k):=by rw [hw2];exact Blk.alloc n1 _
 have n2:Blk w2 (w.heap.size+1) 270 #[.int .i64 (d k:Int),.slice (some ⟨w.heap.size,0,none⟩) (cw k).length (cw k).length]:=by rw [hw2,<- hs1];exact Blk.new _ _ _
 have h2:=h.below hb2 (Nat.le_refl _)
 have hgl:=h.row.lt
 refine⟨?_,fun i hi=>?_,fun i hi=>?_,fun i hi=>?_,fun i j hi hj he=>?_⟩
 ·rw [<- ptrRow_set k n _ p hk]
  have:=blk_set h2.row k (.pointer (some ⟨w.heap.size+1,0,none⟩))
  unfold Blk
  rw [this]
  simp
 ·unfold upd1
  by_cases hik:i=k
  ·subst hik
   rw [if_pos rfl,if_pos rfl]
   exact n2.far (p:=⟨g,i,none⟩) (show w.heap.size+1≠g by omega) _
  ·rw [if_neg hik,if_neg hik]
   have e:=blk_ne (h2.blk i (by omega)) h2.row (by decide)
   exact (h2.blk i (by omega)).far (p:=⟨g,k,none⟩) e _
 ·unfold upd1
  by_cases hik:i=k
  ·subst hik
   rw [if_pos rfl]
   exact Blk.far (p:=⟨g,i,none⟩) n1' (show w.heap.size≠g by omega) _
  ·rw [if_neg hik]
   have e:=blk_ne (h2.word i (by omega)) h2.row (by decide)
   exact Blk.far (p:=⟨g,k,none⟩) (h2.word i (by omega)) e _
 ·unfold upd1
  split
  ·exact hB
  ·exact h.fresh i (by omega)
 ·unfold upd1 at he
  have lt:∀ x,x<k->q x<w.heap.size:=fun x hx=>Blk.lt (h.word x hx)
  by_cases hik:i=k
  ·by_cases hjk:j=k
   ·omega
   ·rw [if_pos hik,if_neg hjk] at he
    have:=lt j (by omega)
    omega
  ·by_cases hjk:j=k
   ·rw [if_neg hik,if_pos hjk] at he
    have:=lt i (by omega)
    omega
   ·rw [if_neg hik,if_neg hjk] at he
    exact h.inj i j (by omega) (by omega) he
theorem Dbs.set {w:World}{g B n:Nat}{p q d:Nat->Nat}{cw cw':Nat->List Nat}(h:Dbs w g B n n p q d cw){j x v:Nat}(hj:j<n)(h1:cw' j=(cw j).set x v)(h2:∀ i,i<n->i≠j->cw' i=cw i) :
  Dbs (w.setCell ⟨q j,x,none⟩ (.int .u8 (v:Int))) g B n n p q d cw':=by
 have hl:∀ i,i<n->(cw' i).length=(cw i).length:=fun i hi=>by
  by_cases hij:i=j
  ·rw [hij,h1,List.length_set]
  ·rw [h2 i hi hij]
 have hw:=h.word j hj
 have eg:=blk_ne h.row hw (by decide)
 refine⟨h.row.far (p:=⟨q j,x,none⟩) eg _,fun i hi=>?_,fun i hi=>?_,h.fresh,h.inj⟩
 ·rw [hl i hi]
  have e:=blk_ne (h.blk i hi) hw (by decide)
  exact (h.blk i hi).far (p:=⟨q j,x,none⟩) e _
 ·by_cases hij:i=j
  ·subst hij
   rw [h1]
   exact hw.set x v
  ·rw [h2 i hi hij]
   exact Blk.far (p:=⟨q j,x,none⟩) (h.word i hi) (fun hc=>hij (h.inj i j hi hj hc)) _
theorem Dbs.ptr {w:World}{g B k n:Nat}{p q d:Nat->Nat}{cw:Nat->List Nat}(h:Dbs w g B k n p q d cw){i:Nat}(hi:i<k)(hn:i<n):w.cell? ⟨g,i,none⟩=some (.pointer (some ⟨p i,0,none⟩)):=by
 rw [h.row.cell i]
 simp [ptrRow,hn,ptrAt,hi]
theorem flat_len {α:Type}(n:Nat)(g:Nat->Nat->α):∀ a,((List.range a).flatMap fun i=>(List.range n).map (g i)).length=a*n:=by
 intro a
 induction a with
 | zero=>simp
 | succ a ih=>rw [List.range_succ,List.flatMap_append,List.length_append,ih];simp [Nat.add_mul]
theorem flat_get (n:Nat)(g:Nat->Nat->Nat)(i k:Nat)(hk:k<n):∀ a,i<a->((List.range a).flatMap fun i=>(List.range n).map (g i)).getD (i*n+k) 0=g i k:=by
 intro a
 induction a with
 | zero=>intro h;omega
 | succ a ih=>
  intro h
  rw [List.range_succ,List.flatMap_append,List.getD_eq_getElem?_getD]
  by_cases hi:i<a
  ·have hl:i*n+k<((List.range a).flatMap fun i=>(List.range n).map (g i)).length:=by
    rw [flat_len]
    exact mulAdd_lt hk hi
   rw [List.getElem?_append_left hl,<- List.getD_eq_getElem?_getD]
   exact ih hi
  ·obtain rfl:i=a:=by omega
   rw [List.getElem?_append_right (by rw [flat_len];omega),flat_len,show i*n+k-i*n=k by omega]
   simp [hk]
def mixedW (c d c2 e:Nat)(code:Nat->Nat->Nat):List Nat :=
 ((List.range (d+1)).flatMap fun i=>(List.range (c+c2)).flatMap fun k=>if i<dl c d k then [code k i] else [])++((List.range e).flatMap fun i=>(List.range (c+c2)).map fun k=>code k (dl c d k+i))
theorem flatMap_alike {α β:Type}(l:List α)(f g:α->List β)(h:∀ x∈l,f x=g x):l.flatMap f=l.flatMap g:=by
 induction l with
 | nil=>rfl
 | cons x l ih=>rw [List.flatMap_cons,List.flatMap_cons,h x (by simp),ih (fun y hy=>h y (by simp [hy]))]
theorem row_full (n:Nat)(p:Nat->Prop)[DecidablePred p](g:Nat->Nat)(h:∀ k,k<n->p k):((List.range n).flatMap fun k=>if p k then [g k] else [])=(List.range n).map g:=by
 rw [List.map_eq_flatMap]
 apply flatMap_alike
 intro k hk
 rw [if_pos (h k (List.mem_range.1 hk))]
theorem row_tail (c d:Nat)(g:Nat->Nat):∀ c2,((List.range (c+c2)).flatMap fun k=>if d<dl c d k then [g k] else [])=(List.range c2).map fun t=>g (c+t):=by
 intro c2
 induction c2 with
 | zero=>
  rw [Nat.add_zero,List.range_zero,List.map_nil,List.flatMap_eq_nil_iff]
  intro k hk
  rw [if_neg]
  unfold dl
  rw [if_pos (List.mem_range.1 hk)]
  omega
 | succ c2 ih=>
  rw [<- Nat.add_assoc,List.range_succ,List.flatMap_append,ih,List.range_succ,List.map_append]
  congr 1
  have:d<dl c d (c+c2):=by unfold dl;rw [if_neg (by omega)];omega
  simp [this]
theorem mixed_split (c d c2 e:Nat)(code:Nat->Nat->Nat):mixedW c d c2 e code =
  ((List.range d).flatMap fun i=>(List.range (c+c2)).map fun k=>code k i)++((List.range c2).map fun t=>code (c+t) d)++((List.range e).flatMap fun i=>(List.range (c+c2)).map fun k=>code k (dl c d k+i)):=by
 unfold mixedW
 congr 1
 rw [List.range_succ,List.flatMap_append]
 congr 1
 ·apply flatMap_alike
  intro i hi
  have hi:=List.mem_range.1 hi
  exact row_full (c+c2) (fun k=>i<dl c d k) (fun k=>code k i) (fun k _=>by unfold dl;split<;>omega)
 ·rw [List.flatMap_cons,List.flatMap_nil,List.append_nil]
  exact row_tail c d (fun k=>code k d) c2
theorem mixed_len (c d c2 e:Nat)(code:Nat->Nat->Nat):(mixedW c d c2 e code).length=d*(c+c2)+c2+e*(c+c2):=by
 rw [mixed_split,List.length_append,List.length_append,flat_len (c+c2) (fun i k=>code k i),flat_len (c+c2) (fun i k=>code k (dl c d k+i))]
 simp
theorem mixed_get (c d c2 e:Nat)(code:Nat->Nat->Nat)(j x:Nat)(hj:j<c+c2)(hx:x<dl c d j+e):(mixedW c d c2 e code).getD (posOf c d c2 j x) 0=code j x:=by
 have l1:=flat_len (c+c2) (fun i k=>code k i) d
 rw [mixed_split,List.getD_eq_getElem?_getD,List.append_assoc]
 unfold posOf
 by_cases h1:x<d
 ·rw [if_pos h1,List.getElem?_append_left (by rw [l1];exact mulAdd_lt hj h1),<- List.getD_eq_getElem?_getD]
  exact flat_get (c+c2) (fun i k=>code k i) x j hj d h1
 ·rw [if_neg h1]
  by_cases h2:x<dl c d j
  ·have h3:c<=j/\x=d:=by
    unfold dl at h2
    split at h2<;>omega
   rw [if_pos h2,List.getElem?_append_right (by rw [l1];omega),l1,show d*(c+c2)+(j-c)-d*(c+c2)=j-c by omega,List.getElem?_append_left (by simp;omega)]
   simp only [List.getElem?_map]
   rw [List.getElem?_range (by omega)]
   simp only [Option.map_some,Option.getD_some]
   rw [show c+(j-c)=j by omega,h3.2]
  ·rw [if_neg h2,List.getElem?_append_right (by rw [l1];omega),l1,List.getElem?_append_right (by simp;omega)]
   rw [show d*(c+c2)+c2+(x-dl c d j)*(c+c2)+j-d*(c+c2)-((List.range c2).map fun t=>code (c+t) d).length=(x-dl c d j)*(c+c2)+j by simp;omega,<- List.getD_eq_getElem?_getD]
   rw [flat_get (c+c2) (fun i k=>code k (dl c d k+i)) (x-dl c d j) j hj e (by omega)]
   rw [show dl c d j+(x-dl c d j)=x by omega]
theorem mixed_block (c d c2 e:Nat)(code:Nat->Nat->Nat)(j:Nat)(hj:j<c+c2):blockWords c d c2 e (mixedW c d c2 e code) j=(List.range (dl c d j+e)).map (code j):=by
 unfold blockWords
 apply List.map_congr_left
 intro x hx
 exact mixed_get c d c2 e code j x hj (List.mem_range.1 hx)
theorem w64n (i:Nat)(h:i<=4294967296):wrap64 ((i:Int)+1)=((i+1:Nat):Int):=by unfold wrap64;omega
def Sq (n i:Nat)(x:List (List Bool)):Prop:=x.length=n/\∀ y,y<i->(x.getD y []).length=n
theorem getD_set_rows (x:List (List Bool))(i j:Nat)(r:List Bool)(hi:i<x.length):(x.set i r).getD j []=if i=j then r else x.getD j []:=by
 rw [List.getD_eq_getElem?_getD,List.getD_eq_getElem?_getD,List.getElem?_set]
 by_cases e:i=j
 ·subst e;simp [hi]
 ·simp [e]
theorem Sq.set {n i:Nat}{x:List (List Bool)}(h:Sq n i x)(j:Nat)(r:List Bool)(hj:j<n)(hr:r.length=n):Sq n i (x.set j r):=by
 refine⟨by rw [List.length_set,h.1],fun y hy=>?_⟩
 rw [getD_set_rows _ _ _ _ (by rw [h.1];exact hj)]
 split
 ·exact hr
 ·exact h.2 y hy
theorem version_some (a:Nat)(h:a<256):F.laws_qrVersion.f (a:Int)=some ((1+a%40:Nat):Int):=by
 unfold F.laws_qrVersion.f
 have e1:wrap64 (a:Int)=(a:Int):=by unfold wrap64;omega
 rw [e1,Int.tmod_eq_emod_of_nonneg (by omega)]
 have e2:wrap64 (1+(a:Int)%40)=((1+a%40:Nat):Int):=by unfold wrap64;omega
 rw [e2]
end Go.Proofs.YtgccjgpdjkhpdaaGreat.B
