import Derived.Test.YtgccjgpdjkhpdaaGreatVQ12
import Derived.Test.YtgccjgpdjkhpdaaGreatVQ49
/-! Own texts of this claim, part 50. -/
namespace Go.Proofs.YtgccjgpdjkhpdaaGreat.B
open Go.RowKit Go.Proofs.YtgccjgpdjkhpdaaGreatW.PrintWords Go.Proofs.YtgccjgpdjkhpdaaGreatW.PrintLast Go.Proofs.YtgccjgpdjkhpdaaGreatW.PrintMore
set_option linter.unusedVariables false
set_option linter.unusedSimpArgs false
theorem pair_reads (W:World)(a b:Int):ReadsInt (W.alloc (.cells #[.int .u8 a,.int .u8 b] 5)) .u8 (some ⟨W.heap.size,0,none⟩) 2 [a,b]:=by
 refine⟨rfl,by decide,fun _=>⟨_,rfl,fun j hj=>?_⟩⟩
 have h:=Blk.new W 5 #[.int .u8 a,.int .u8 b]
 rw [show (⟨W.heap.size,0,none⟩:Addr).add j=⟨W.heap.size,j,none⟩ by unfold Addr.add;split<;>simp_all,h.cell j]
 have:j=0\/j=1:=by omega
 rcases this with rfl | rfl<;>rfl
set_option maxHeartbeats 8000000 in
set_option maxRecDepth 8000 in
theorem said59a (w:World)(q o n c p cnt T:Nat)(ws:List Nat)(hC:CBits w q o ((streamBits ws).drop p))(hq:q<w.heap.size)(hT:8*ws.length=T)(hn:n+p=T)(hc:n<=c)(hT2:T<=1000000)(hcnt:cnt<=100000) :
  Calls Tryz.prog 59 #[.slice (some ⟨q,o,none⟩) n c,.int .i64 2,.int .i64 (cnt:Int)] w (SaidRes w q T (streamBits ws) (alSeg ws p cnt [])):=by
 obtain⟨R,hR⟩:∃ R,alSeg ws p cnt []=R:=⟨_,rfl⟩
 rw [hR]
 have HR:=Aside0.mk hR
 have HC:=Aside0.mk hC
 have HQ:=Aside0.mk hq
 have HT:=Aside0.mk hT
 have HN:=Aside0.mk hn
 have HCC:=Aside0.mk hc
 clear hR hC hq hT hn hc
 go_enter Tryz.func59,Tryz.ntmps59
 go_wp2
 go_loopw [0,2,9] (fun vl vc vo wr=>∃ (o c n p cn:Nat) (ys:List Int),vl=.slice (some ⟨q,o,none⟩) n c/\vc=.int .i64 (cn:Int)/\cn<=cnt/\n<=1000000/\Aside0 (n<=c)/\Aside0 (n+p=T)/\Aside0 (wr.ownsRow w.heap.size 5 1 vo ys.length (nums .u8 ys))/\Aside0 (CBits wr q o ((streamBits ws).drop p))/\Aside0 (Below w.heap.size w wr)/\Aside0 (alSeg ws p cn ys=R)/\Aside0 (ys.length+cn<=cnt)) (fun _ vc _ _=>(intOf vc).toNat)
 case atStart=>exact⟨o,c,n,p,cnt,[],rfl,rfl,Nat.le_refl _,by have:=HN.out;omega,HCC,HN,⟨⟨rfl,.inl ⟨rfl,rfl⟩⟩⟩,HC,⟨Below.refl _ _⟩,HR,⟨by simp⟩⟩
 case round=>
  clear HR HC HN HCC
  obtain⟨o,c,n,p,cn,ys,rfl,rfl,hcn,hn6,HCC,HN,HO,HC,HB,HR,HLEN⟩:=hrel
  have hq0:=HQ.out
  have hal:=fun W (a:Nat) (ha:a<45)=>alphaByte W a ha
  by_cases h2:2<=cn
  ·have hr:=HR.out
   rw [alSeg,if_pos h2] at hr
   have hb1:decide ((cn:Int)≥2)=true:=by simp;omega
   by_cases hs:11<=n
   ·have kt:=takeAt wr q o n c p 11 T 11 rfl ws HC.out HT.out HN.out HCC.out (by omega) (by omega) hs
    obtain⟨x,hx⟩:∃ x,rdBits ws p 11=x:=⟨_,rfl⟩
    have hx11:x<2048:=by rw [<- hx];exact rdBits_lt _ _ _
    rw [hx] at kt hr
    clear hx
    by_cases hx2:x<2025
    ·rw [if_pos ⟨by have:=HN.out;have:=HT.out;omega,by omega⟩] at hr
     have hb2:decide ((x:Int)≥2025)=false:=by simp;omega
     have HR3:=Aside0.mk hr
     have k1:=fun W=>hal W (x/45) (by omega)
     have k2:=fun W=>hal W (x%45) (by omega)
     obtain⟨a,ha⟩:∃ a,alCh (x/45)=a:=⟨_,rfl⟩
     obtain⟨b,hb⟩:∃ b,alCh (x%45)=b:=⟨_,rfl⟩
     rw [ha] at k1 HR3
     rw [hb] at k2 HR3
     have q1:((x/45:Nat):Int)=(x:Int)/45:=by omega
     have q2:((x%45:Nat):Int)=(x:Int)%45:=by omega
     rw [q1] at k1
     rw [q2] at k2
     have hx3:x<65536:=by omega
     clear hr ha hb q1 q2 hal hx11 hx2
     go_wp2_with (first | (go_at_call 57;with_reducible (refine kt.mono ?_);rintro e w1 ⟨o1,c1,n1,rfl,hn1,hc1,hC1,hd1⟩;have HC1:=Aside0.mk hC1;have HB1:=Aside0.mk (HB.out.trans (hd1.below.mono HB.out.size));have HO1:=Aside0.mk (own_und5 HO.out hd1.below);clear hC1 hd1) | (go_at_call 52;first | (with_reducible (refine (k1 _).mono ?_);rintro e w' ⟨rfl,rfl⟩) | (with_reducible (refine (k2 _).mono ?_);rintro e w' ⟨rfl,rfl⟩)) | ((with_reducible refine gate_builtin (b:=.append) (xs:=#[.tmp 92,.tmp 99]) rfl ?_);at_builtin;refine print_append_row (w0:=w) w.heap.size rfl (.tmp 92) (.tmp 99) 26 5 .u8 1 rfl Tryz.underlying26 F.info5 (by decide) _ ys [a,b] (some ⟨w1.heap.size,0,none⟩) 2 2 rfl rfl (own_und5 HO1.out (below_alloc (Below.refl _ _) _)) (pair_reads w1 a b) (HB1.out.alloc HB1.out.size _) ?aZ ?aL ?_;(case aZ=>(have:=HB1.out.size;simp;omega));(case aL=>(have:=HLEN.out;omega));intro v_ w_ ho hb hg hat;have HO2:=Aside0.mk ho;have HB2:=Aside0.mk hb;have HC2:=Aside0.mk (CBits.grow (HC1.out.below (below_alloc (Below.refl w1.heap.size w1) _) (Nat.lt_of_lt_of_le hq0 HB1.out.size)) hg (own_not HO1.out hq0));clear ho hb hg hat))
     go_roundw
     case rel=>exact⟨o1,c1,n1,p+11,cn-2,ys++[a,b],rfl,by go_num,by omega,by omega,⟨hc1⟩,⟨by have:=HN.out;omega⟩,HO2,HC2,HB2,⟨by have:=HR3.out;simpa using this⟩,⟨by have:=HLEN.out;simp only [List.length_append,List.length_cons,List.length_nil];omega⟩⟩
     case measure=>simp [intOf]<;>omega
    ·rw [if_neg (fun h=>by have:=h.2;omega)] at hr
     have hb2:decide ((x:Int)≥2025)=true:=by simp;omega
     have HR3:=Aside0.mk hr
     clear hr hal hx11 hx2
     go_wp2_with (go_at_call 57;with_reducible (refine kt.mono ?_);rintro e w1 ⟨o1,c1,n1,rfl,hn1,hc1,hC1,hd1⟩;have HC1:=Aside0.mk hC1;have HB1:=Aside0.mk (HB.out.trans (hd1.below.mono HB.out.size));have HO1:=Aside0.mk (own_und5 HO.out hd1.below);clear hC1 hd1)
     go_ret3
     exact SaidRes.bad HR3.out.symm HB1.out
   ·rw [if_neg (fun h=>by have:=h.1;have:=HN.out;have:=HT.out;omega)] at hr
    have HR3:=Aside0.mk hr
    have kt:=takeNo wr q o n c 11 11 rfl (by omega)
    clear hr hal
    go_wp2_with (go_at_call 57;with_reducible (refine kt.mono ?_);rintro e w1 ⟨rfl,rfl⟩)
    go_ret3
    exact SaidRes.bad HR3.out.symm HB.out
  ·have hb1:decide ((cn:Int)≥2)=false:=by simp;omega
   by_cases h1:cn=1
   ·subst h1
    have hr:=HR.out
    rw [alSeg,if_neg (by decide),if_pos rfl] at hr
    by_cases hs:6<=n
    ·have kt:=takeAt wr q o n c p 6 T 6 rfl ws HC.out HT.out HN.out HCC.out (by omega) (by omega) hs
     obtain⟨x,hx⟩:∃ x,rdBits ws p 6=x:=⟨_,rfl⟩
     have hx6:x<64:=by rw [<- hx];exact rdBits_lt _ _ _
     rw [hx] at kt hr
     clear hx
     by_cases hx2:x<45
     ·rw [if_pos ⟨by have:=HN.out;have:=HT.out;omega,hx2⟩] at hr
      have HR3:=Aside0.mk hr
      have k1:=fun W=>hal W x hx2
      obtain⟨a,ha⟩:∃ a,alCh x=a:=⟨_,rfl⟩
      rw [ha] at k1 HR3
      clear hr ha hal h2
      go_wp2_with (first | (go_at_call 57;with_reducible (refine kt.mono ?_);rintro e w1 ⟨o1,c1,n1,rfl,hn1,hc1,hC1,hd1⟩;have HC1:=Aside0.mk hC1;have HB1:=Aside0.mk (HB.out.trans (hd1.below.mono HB.out.size));have HO1:=Aside0.mk (own_und5 HO.out hd1.below);clear hC1 hd1) | (go_at_call 52;with_reducible (refine (k1 _).mono ?_);rintro e w' ⟨rfl,rfl⟩) | ((with_reducible refine gate_builtin (b:=.append) (xs:=#[.tmp 118,.tmp 121]) rfl ?_);at_builtin;refine print_append_num (w0:=w) w.heap.size rfl (.tmp 118) (.tmp 121) 26 5 .u8 1 rfl Tryz.underlying26 F.info5 (by decide) _ _ _ rfl rfl HO1.out HB1.out HB1.out.size ?aL ?_;(case aL=>(have:=HLEN.out;(try simp only [List.length_append,List.length_cons,List.length_nil]);omega));intro v_ w_ ho hb hg hat;have HO2:=Aside0.mk ho;have HB2:=Aside0.mk hb;have HC2:=Aside0.mk (HC1.out.grow hg (own_not HO1.out hq0));clear ho hb hg hat))
      go_roundw
      case rel=>exact⟨o1,c1,n1,p+6,0,ys++[a],rfl,by go_num,by omega,by omega,⟨hc1⟩,⟨by have:=HN.out;omega⟩,HO2,HC2,HB2,⟨by rw [alSeg,if_neg (by decide),if_neg (by decide)];exact HR3.out⟩,⟨by have:=HLEN.out;simp only [List.length_append,List.length_cons,List.length_nil];omega⟩⟩
      case measure=>simp [intOf]<;>omega
     ·rw [if_neg (fun h=>hx2 h.2)] at hr
      have HR3:=Aside0.mk hr
      clear hr hal h2
      go_wp2_with (go_at_call 57;with_reducible (refine kt.mono ?_);rintro e w1 ⟨o1,c1,n1,rfl,hn1,hc1,hC1,hd1⟩;have HC1:=Aside0.mk hC1;have HB1:=Aside0.mk (HB.out.trans (hd1.below.mono HB.out.size));have HO1:=Aside0.mk (own_und5 HO.out hd1.below);clear hC1 hd1)
      go_ret3
      exact SaidRes.bad HR3.out.symm HB1.out
    ·rw [if_neg (fun h=>by have:=h.1;have:=HN.out;have:=HT.out;omega)] at hr
     have HR3:=Aside0.mk hr
     have kt:=takeNo wr q o n c 6 6 rfl (by omega)
     clear hr hal h2
     go_wp2_with (go_at_call 57;with_reducible (refine kt.mono ?_);rintro e w1 ⟨rfl,rfl⟩)
     go_ret3
     exact SaidRes.bad HR3.out.symm HB.out
   ·obtain rfl:cn=0:=by omega
    have hr:=HR.out
    rw [alSeg,if_neg (by decide),if_neg (by decide)] at hr
    have HR3:=Aside0.mk hr
    clear hr hal h2 h1 hb1
    go_wp2
    go_ret3
    exact SaidRes.fine HR3.out.symm HN.out HCC.out HO.out HC.out HB.out
end Go.Proofs.YtgccjgpdjkhpdaaGreat.B
