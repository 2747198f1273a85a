import Derived.Test.YtgccjgpdjkhpdaaGreatVQ49
/-! Own texts of this claim, part 51. -/
namespace Go.Proofs.YtgccjgpdjkhpdaaGreat.B
open Go.RowKit Go.Proofs.YtgccjgpdjkhpdaaGreatW.PrintWords Go.Proofs.YtgccjgpdjkhpdaaGreatW.PrintLast Go.Proofs.YtgccjgpdjkhpdaaGreatW.PrintMore
set_option linter.unusedVariables false
set_option linter.unusedSimpArgs false
def lit4 (a b c d:Int):Value:=.agg #[.int .i64 a,.int .i64 b,.int .i64 c,.int .i64 d]
structure Grp (k kb lim:Nat)(dg:Nat->List Int):Prop where
 k1:1<=k
 k3:k<=3
 kb10:kb<=10
 lm:lim<=1000
 ia:∀ W,(Instr.index 170 (lit4 0 4 7 10) (.int .i64 (k:Int))).run Tryz.prog W=.ok (.int .i64 (kb:Int)) W
 ib:∀ W,(Instr.index 170 (lit4 1 10 100 1000) (.int .i64 (k:Int))).run Tryz.prog W=.ok (.int .i64 (lim:Int)) W
 len:∀ x,(dg x).length=k
 dig:∀ x,x<lim->∀ i,1<=i->i<=k->∃ t:Nat,(t=1\/t=10\/t=100)/\(∀ W,(Instr.index 170 (lit4 1 1 10 100) (.int .i64 (i:Int))).run Tryz.prog W=.ok (.int .i64 ((t:Nat):Int)) W)/\(dg x).take (k-i+1)=(dg x).take (k-i)++[48+((x/t%10:Nat):Int)]
def dg3 (x:Nat):List Int:=[48+((x/100:Nat):Int),48+((x/10%10:Nat):Int),48+((x%10:Nat):Int)]
def dg2 (x:Nat):List Int:=[48+((x/10:Nat):Int),48+((x%10:Nat):Int)]
def dg1 (x:Nat):List Int:=[48+(x:Int)]
theorem ic1 (W:World):(Instr.index 170 (lit4 1 1 10 100) (.int .i64 ((1:Nat):Int))).run Tryz.prog W=.ok (.int .i64 ((1:Nat):Int)) W:=by kernel_rfl
theorem ic2 (W:World):(Instr.index 170 (lit4 1 1 10 100) (.int .i64 ((2:Nat):Int))).run Tryz.prog W=.ok (.int .i64 ((10:Nat):Int)) W:=by kernel_rfl
theorem ic3 (W:World):(Instr.index 170 (lit4 1 1 10 100) (.int .i64 ((3:Nat):Int))).run Tryz.prog W=.ok (.int .i64 ((100:Nat):Int)) W:=by kernel_rfl
theorem grp3:Grp 3 10 1000 dg3:=by
 refine⟨by decide,by decide,by decide,by decide,fun W=>by kernel_rfl,fun W=>by kernel_rfl,fun x=>rfl,fun x hx i h1 h2=>?_⟩
 have:i=1\/i=2\/i=3:=by omega
 rcases this with rfl | rfl | rfl
 ·exact⟨1,.inl rfl,ic1,by rw [Nat.div_one];rfl⟩
 ·exact⟨10,.inr (.inl rfl),ic2,rfl⟩
 ·exact⟨100,.inr (.inr rfl),ic3,by rw [Nat.mod_eq_of_lt (show x/100<10 by omega)];rfl⟩
theorem grp2:Grp 2 7 100 dg2:=by
 refine⟨by decide,by decide,by decide,by decide,fun W=>by kernel_rfl,fun W=>by kernel_rfl,fun x=>rfl,fun x hx i h1 h2=>?_⟩
 have:i=1\/i=2:=by omega
 rcases this with rfl | rfl
 ·exact⟨1,.inl rfl,ic1,by rw [Nat.div_one];rfl⟩
 ·exact⟨10,.inr (.inl rfl),ic2,by rw [Nat.mod_eq_of_lt (show x/10<10 by omega)];rfl⟩
theorem grp1:Grp 1 4 10 dg1:=by
 refine⟨by decide,by decide,by decide,by decide,fun W=>by kernel_rfl,fun W=>by kernel_rfl,fun x=>rfl,fun x hx i h1 h2=>?_⟩
 obtain rfl:i=1:=by omega
 exact⟨1,.inl rfl,ic1,by rw [Nat.div_one,Nat.mod_eq_of_lt hx];rfl⟩
theorem grp_of (ws:List Nat)(p cn T:Nat)(ys:List Int)(hT:8*ws.length=T)(h0:0<cn):∃ k kb lim dg,Grp k kb lim dg/\k<=cn/\(if (cn:Int)<3 then (cn:Int) else 3)=(k:Int)/\
  numSeg ws p cn ys=if p+kb<=T/\rdBits ws p kb<lim then numSeg ws (p+kb) (cn-k) (ys++dg (rdBits ws p kb)) else none:=by
 subst hT
 have e0:∀ q a,numSeg ws q 0 a=some (a,q):=fun q a=>by rw [numSeg,if_neg (by omega),if_neg (by omega),if_neg (by omega)]
 by_cases h3:3<=cn
 ·refine⟨3,10,1000,dg3,grp3,h3,by rw [if_neg (by omega)];rfl,?_⟩
  rw [numSeg,if_pos h3]
  simp only [dg3,List.append_assoc,List.cons_append,List.nil_append]
 ·by_cases h2:cn=2
  ·subst h2
   refine⟨2,7,100,dg2,grp2,by decide,rfl,?_⟩
   rw [numSeg,if_neg (by decide),if_pos rfl,Nat.sub_self,e0]
   simp only [dg2,List.append_assoc,List.cons_append,List.nil_append]
  ·obtain rfl:cn=1:=by omega
   refine⟨1,4,10,dg1,grp1,by decide,rfl,?_⟩
   rw [numSeg,if_neg (by decide),if_neg (by decide),if_pos rfl,Nat.sub_self,e0]
   rfl
theorem own_dig {w:World}{base:Nat}{v:Value}{ys:List Int}{y d:Int}(h:y=d)(ho:w.ownsRow base 5 1 v (ys++[y]).length (nums .u8 (ys++[y]))):w.ownsRow base 5 1 v (ys++[d]).length (nums .u8 (ys++[d])):=h ▸ ho
set_option maxHeartbeats 8000000 in
set_option maxRecDepth 8000 in
theorem said59n (w:World)(q o n c p cnt T:Nat)(ws:List Nat)(hC:CBits w q o ((streamBits ws).drop p))(hq:q<w.heap.size)(hT:8*ws.length=T)(hn:n+p=T)(hc:n<=c)(hT2:T<=1000000)(hcnt:cnt<=100000) :
  Calls Tryz.prog 59 #[.slice (some ⟨q,o,none⟩) n c,.int .i64 1,.int .i64 (cnt:Int)] w (SaidRes w q T (streamBits ws) (numSeg ws p cnt [])):=by
 obtain⟨R,hR⟩:∃ R,numSeg ws p cnt []=R:=⟨_,rfl⟩
 rw [hR]
 have HR:=Aside0.mk hR
 have HC:=Aside0.mk hC
 have HQ:=Aside0.mk hq
 have HT:=Aside0.mk hT
 have HN:=Aside0.mk hn
 have HCC:=Aside0.mk hc
 clear hR hC hq hT hn hc
 go_enter Tryz.func59,Tryz.ntmps59
 go_wp2
 go_loopw [0,2,9] (fun vl vc vo wr=>∃ (o c n p cn:Nat) (ys:List Int),vl=.slice (some ⟨q,o,none⟩) n c/\vc=.int .i64 (cn:Int)/\cn<=cnt/\n<=1000000/\Aside0 (n<=c)/\Aside0 (n+p=T)/\Aside0 (wr.ownsRow w.heap.size 5 1 vo ys.length (nums .u8 ys))/\Aside0 (CBits wr q o ((streamBits ws).drop p))/\Aside0 (Below w.heap.size w wr)/\Aside0 (numSeg ws p cn ys=R)/\Aside0 (ys.length+cn<=cnt)) (fun _ vc _ _=>(intOf vc).toNat)
 case atStart=>exact⟨o,c,n,p,cnt,[],rfl,rfl,Nat.le_refl _,by have:=HN.out;omega,HCC,HN,⟨⟨rfl,.inl ⟨rfl,rfl⟩⟩⟩,HC,⟨Below.refl _ _⟩,HR,⟨by simp⟩⟩
 case round=>
  clear HR HC HN HCC
  obtain⟨o,c,n,p,cn,ys,rfl,rfl,hcn,hn6,HCC,HN,HO,HC,HB,HR,HLEN⟩:=hrel
  have hq0:=HQ.out
  by_cases h0:0<cn
  ·obtain⟨k,kb,lim,dg,G,hkc,hmin,hns⟩:=grp_of ws p cn T ys HT.out h0
   have hr:=HR.out
   rw [hns] at hr
   have hk1:=G.k1
   have hk3:=G.k3
   have hkb:=G.kb10
   have hlim:=G.lm
   have ia:=G.ia
   have ib:=G.ib
   unfold lit4 at ia ib
   have HG:=Aside0.mk G
   have HMIN:=Aside0.mk hmin
   clear G hns
   by_cases hs:kb<=n
   ·have kt:=takeAt wr q o n c p kb T (kb:Int) rfl ws HC.out HT.out HN.out HCC.out (by omega) (by omega) hs
    obtain⟨x,hx⟩:∃ x,rdBits ws p kb=x:=⟨_,rfl⟩
    have hx11:x<1024:=by rw [<- hx];exact Nat.lt_of_lt_of_le (rdBits_lt _ _ _) (Nat.pow_le_pow_right (by omega) hkb)
    rw [hx] at kt hr
    clear hx
    by_cases hx2:x<lim
    ·rw [if_pos ⟨by have:=HN.out;omega,hx2⟩] at hr
     have hx3:¬ lim<=x:=by omega
     have HR3:=Aside0.mk hr
     obtain⟨ds,hds⟩:∃ ds,dg x=ds:=⟨_,rfl⟩
     have HDL:=Aside0.mk (show ds.length=k by rw [<- hds];exact HG.out.len x)
     have HDG:=Aside0.mk (show ∀ i,1<=i->i<=k->_ from HG.out.dig x hx2)
     rw [hds] at HR3 HDG
     clear hr hds hx2
     go_wp2_with (go_at_call 57;with_reducible (refine kt.mono ?_);rintro e w1 ⟨o1,c1,n1,rfl,hn1,hc1,hC1,hd1⟩;have HC1:=Aside0.mk hC1;have HB1:=Aside0.mk (HB.out.trans (hd1.below.mono HB.out.size));have HO1:=Aside0.mk (own_und5 HO.out hd1.below);clear hC1 hd1)
     clear hx3 hmin ia ib HO HC HB
     obtain⟨wo,hwo⟩:∃ wo,wo=wr:=⟨_,rfl⟩
     subst hwo
     go_loopw [9,13] (fun vo vi wq=>∃ i:Nat,vi=.int .i64 (i:Int)/\i<=k/\Aside0 (wq.ownsRow w.heap.size 5 1 vo (ys++ds.take (k-i)).length (nums .u8 (ys++ds.take (k-i))))/\Aside0 (CBits wq q o1 ((streamBits ws).drop (p+kb)))/\Aside0 (Below w.heap.size w wq)) (fun _ vi _=>(intOf vi).toNat)
     case atStart=>exact⟨k,rfl,Nat.le_refl _,⟨by rw [Nat.sub_self,List.take_zero,List.append_nil];exact HO1.out⟩,HC1,HB1⟩
     case round=>
      clear HO1 HC1 HB1
      obtain⟨i,rfl,hik,HO1,HC1,HB1⟩:=hrel
      by_cases hi0:0<i
      ·obtain⟨t,ht,ic,htk⟩:=HDG.out i hi0 hik
       unfold lit4 at ic
       have HTK:=Aside0.mk htk
       have HYL:=Aside0.mk (show (ys++ds.take (k-i)).length+1<=200000 by rw [List.length_append,List.length_take];have:=HLEN.out;omega)
       obtain⟨zs,hzs⟩:∃ zs,ys++ds.take (k-i)=zs:=⟨_,rfl⟩
       have HZT:=Aside0.mk (show ys++ds.take (k-i+1)=zs++[48+((x/t%10:Nat):Int)] by rw [htk,<- List.append_assoc,hzs])
       rw [hzs] at HO1 HYL
       obtain⟨d,hd⟩:∃ d:Int,48+((x/t%10:Nat):Int)=d:=⟨_,rfl⟩
       rw [hd] at HZT
       have HD:=Aside0.mk hd
       clear htk hzs hd HTK
       rcases ht with rfl | rfl | rfl
       all_goals
        go_wp2_with ((with_reducible refine gate_builtin (b:=.append) (xs:=#[.tmp 59,.tmp 68]) rfl ?_);at_builtin;refine print_append_num (w0:=w) w.heap.size rfl (.tmp 59) (.tmp 68) 26 5 .u8 1 rfl Tryz.underlying26 F.info5 (by decide) _ zs _ rfl rfl HO1.out HB1.out HB1.out.size ?aL ?_;(case aL=>(have:=HYL.out;omega));intro v_ w_ ho hb hg hat;have HO2:=Aside0.mk (own_dig (d:=d) (by have:=HD.out;omega) ho);have HB2:=Aside0.mk hb;have HC2:=Aside0.mk (HC1.out.grow hg (own_not HO1.out hq0));clear ho hb hg hat)
        go_roundw
        case rel=>exact⟨i-1,by go_num,by omega,⟨by rw [show k-(i-1)=k-i+1 by omega,HZT.out];exact HO2.out⟩,HC2,HB2⟩
        case measure=>simp [intOf]<;>omega
      ·obtain rfl:i=0:=by omega
       have HO3:=Aside0.mk (show wr.ownsRow w.heap.size 5 1 u9 (ys++ds).length (nums .u8 (ys++ds)) by have h:=HO1.out;rw [Nat.sub_zero,List.take_of_length_le (by rw [HDL.out];exact Nat.le_refl _)] at h;exact h)
       clear HO1
       go_wp2
       go_roundw
       case rel=>exact⟨o1,c1,n1,p+kb,cn-k,ys++ds,rfl,by go_num,by omega,by omega,⟨hc1⟩,⟨by have:=HN.out;omega⟩,HO3,HC1,HB1,HR3,⟨by have:=HLEN.out;rw [List.length_append,HDL.out];omega⟩⟩
       case measure=>simp [intOf]<;>omega
    ·rw [if_neg (fun h=>hx2 h.2)] at hr
     have hx3:lim<=x:=by omega
     have HR3:=Aside0.mk hr
     clear hr hx2
     go_wp2_with (go_at_call 57;with_reducible (refine kt.mono ?_);rintro e w1 ⟨o1,c1,n1,rfl,hn1,hc1,hC1,hd1⟩;have HC1:=Aside0.mk hC1;have HB1:=Aside0.mk (HB.out.trans (hd1.below.mono HB.out.size));have HO1:=Aside0.mk (own_und5 HO.out hd1.below);clear hC1 hd1)
     go_ret3
     exact SaidRes.bad HR3.out.symm HB1.out
   ·rw [if_neg (fun h=>by have:=h.1;have:=HN.out;omega)] at hr
    have HR3:=Aside0.mk hr
    have kt:=takeNo wr q o n c kb (kb:Int) rfl (by omega)
    clear hr
    go_wp2_with (go_at_call 57;with_reducible (refine kt.mono ?_);rintro e w1 ⟨rfl,rfl⟩)
    go_ret3
    exact SaidRes.bad HR3.out.symm HB.out
  ·obtain rfl:cn=0:=by omega
   have hr:=HR.out
   rw [numSeg,if_neg (by decide),if_neg (by decide),if_neg (by decide)] at hr
   have HR3:=Aside0.mk hr
   clear hr
   go_wp2
   go_ret3
   exact SaidRes.fine HR3.out.symm HN.out HCC.out HO.out HC.out HB.out
end Go.Proofs.YtgccjgpdjkhpdaaGreat.B
