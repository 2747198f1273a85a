import Derived.Test.YtgccjgpdjkhpdaaGreatVQ14
/-! Own texts of this claim, part 49. -/
namespace Go.Proofs.YtgccjgpdjkhpdaaGreat.B
open Go.RowKit Go.Proofs.YtgccjgpdjkhpdaaGreatW.PrintWords Go.Proofs.YtgccjgpdjkhpdaaGreatW.PrintLast Go.Proofs.YtgccjgpdjkhpdaaGreatW.PrintMore
set_option linter.unusedVariables false
set_option linter.unusedSimpArgs false
theorem numSeg_acc (bs:List Nat):∀ (n cnt pos:Nat) (acc:List Int),cnt<=n->numSeg bs pos cnt acc=(numSeg bs pos cnt []).map fun r=>(acc++r.1,r.2):=by
 intro n
 induction n with
 | zero=>
  intro cnt pos acc h
  have:cnt=0:=by omega
  subst this
  have e:∀ a:List Int,numSeg bs pos 0 a=some (a,pos):=fun a=>by rw [numSeg,if_neg (by omega),if_neg (by omega),if_neg (by omega)]
  rw [e,e]
  simp
 | succ n ih=>
  intro cnt pos acc h
  rw [numSeg,numSeg.eq_1 bs pos cnt []]
  by_cases h3:3<=cnt
  ·rw [if_pos h3,if_pos h3]
   split
   ·rw [ih (cnt-3) _ (acc++_++_++_) (by omega),ih (cnt-3) _ ([]++_++_++_) (by omega),Option.map_map]
    congr 1
    funext r
    simp
   ·rfl
  ·rw [if_neg h3,if_neg h3]
   by_cases h2:cnt=2
   ·rw [if_pos h2,if_pos h2]
    split
    ·simp
    ·rfl
   ·rw [if_neg h2,if_neg h2]
    by_cases h1:cnt=1
    ·rw [if_pos h1,if_pos h1]
     split
     ·simp
     ·rfl
    ·rw [if_neg h1,if_neg h1]
     simp
theorem alSeg_acc (bs:List Nat):∀ (n cnt pos:Nat) (acc:List Int),cnt<=n->alSeg bs pos cnt acc=(alSeg bs pos cnt []).map fun r=>(acc++r.1,r.2):=by
 intro n
 induction n with
 | zero=>
  intro cnt pos acc h
  have:cnt=0:=by omega
  subst this
  have e:∀ a:List Int,alSeg bs pos 0 a=some (a,pos):=fun a=>by rw [alSeg,if_neg (by omega),if_neg (by omega)]
  rw [e,e]
  simp
 | succ n ih=>
  intro cnt pos acc h
  rw [alSeg,alSeg.eq_1 bs pos cnt []]
  by_cases h3:2<=cnt
  ·rw [if_pos h3,if_pos h3]
   split
   ·rw [ih (cnt-2) _ (acc++_++_) (by omega),ih (cnt-2) _ ([]++_++_) (by omega),Option.map_map]
    congr 1
    funext r
    simp
   ·rfl
  ·rw [if_neg h3,if_neg h3]
   by_cases h1:cnt=1
   ·rw [if_pos h1,if_pos h1]
    split
    ·simp
    ·rfl
   ·rw [if_neg h1,if_neg h1]
    simp
theorem info4h:(Tryz.prog.info? 4).map (fun i=>(i.zero,i.size,i.bytes))=some (some (.bool false),1,1):=by kernel_rfl
theorem cut_bools (q o n c k:Nat)(hk:k<=n)(hn:n<=c)(W:World):(Instr.slice 45 (.slice (some ⟨q,o,none⟩) n c) (some (.int .i64 (k:Int))) none none).run Tryz.prog W=.ok (.slice (some ⟨q,if c=k then o else o+k,none⟩) (n-k) (c-k)) W:=by
 obtain⟨i,hi,hz,hs,hb⟩:=info_parts info4h
 have hel:Tryz.prog.elem 45=4:=by simp [Program.elem,Tryz.underlying45]
 have hu:Tryz.prog.underlying 45=some (.slice (Tryz.prog.elem 45)):=by rw [hel];exact Tryz.underlying45
 rw [run_slice_l W 45 (some ⟨q,o,none⟩) n c hu .i64 (k:Int) (Int.natCast_nonneg _) (by omega),hel]
 have e:(⟨q,o,none⟩:Addr).add k=⟨q,o+k,none⟩:=by
  unfold Addr.add
  by_cases h:k=0
  ·subst h;simp
  ·simp [h]
 by_cases hck:c=k
 ·simp [sizeOf,typeInfo,hi,hs,sliced,Result.andThen,hck]
 ·simp [sizeOf,typeInfo,hi,hs,sliced,Result.andThen,hck,e]
theorem top_bools (q o n c k:Nat)(hk:k<=n)(hn:n<=c)(W:World):(Instr.slice 45 (.slice (some ⟨q,o,none⟩) n c) none (some (.int .i64 (k:Int))) none).run Tryz.prog W=.ok (.slice (some ⟨q,o,none⟩) k c) W:=by
 obtain⟨i,hi,hz,hs,hb⟩:=info_parts info4h
 have hel:Tryz.prog.elem 45=4:=by simp [Program.elem,Tryz.underlying45]
 have hu:Tryz.prog.underlying 45=some (.slice (Tryz.prog.elem 45)):=by rw [hel];exact Tryz.underlying45
 rw [run_slice_h W 45 (some ⟨q,o,none⟩) n c hu .i64 (k:Int) (Int.natCast_nonneg _) (by omega),hel]
 simp [sizeOf,typeInfo,hi,hs,sliced,Result.andThen,Addr.add]
theorem bval_take (xs:List Bool)(i:Nat)(h:i<xs.length):bval (xs.take (i+1))=2*bval (xs.take i)+(xs.getD i false).toNat:=by
 rw [List.take_succ_eq_append_getElem h,bval_append,List.getD_eq_getElem?_getD,List.getElem?_eq_getElem h]
 simp [bval]
 omega
def TakeRes (q:Nat)(xs:List Bool)(n k:Nat)(e:Ending)(w w':World):Prop :=
 ∃ o' c',e=.returned (.tuple #[.int .i64 ((bval (xs.take k):Nat):Int),.slice (some ⟨q,o',none⟩) (n-k) c',.bool true])/\n-k<=c'/\CBits w' q o' (xs.drop k)/\Drawn w w'
set_option maxHeartbeats 4000000 in
set_option maxRecDepth 8000 in
theorem take57 (w:World)(q o n c k:Nat)(xs:List Bool)(hC:CBits w q o xs)(hn:xs.length=n)(hc:n<=c)(hk:k<=n)(hk16:k<=16)(hn2:n<=1000000) :
  Calls Tryz.prog 57 #[.slice (some ⟨q,o,none⟩) n c,.int .i64 (k:Int)] w fun e w'=>TakeRes q xs n k e w w':=by
 have hcut:=cut_bools q o n c k hk hc
 have htop:=top_bools q o n c k hk hc
 have HC:=Aside0.mk hC
 have HN:=Aside0.mk hn
 have hDR:=Aside0.mk (fun (w':World) (h:Drawn w w')=>show CBits w' q (if c=k then o else o+k) (xs.drop k) by
  obtain⟨m,rfl⟩:=h
  by_cases hck:c=k
  ·rw [if_pos hck]
   intro i hi
   rw [List.length_drop] at hi
   omega
  ·rw [if_neg hck]
   exact hC.drop k)
 obtain⟨o',ho'⟩:∃ o',(if c=k then o else o+k)=o':=⟨_,rfl⟩
 rw [ho'] at hcut hDR
 clear hC hn ho'
 go_enter Tryz.func57,Tryz.ntmps57
 go_wp2
 go_loopw [7,9,19] (fun vn vb vi wr=>∃ i:Nat,vi=.int .i64 (i:Int)/\i<=k/\Aside0 (Drawn w wr)/\∃ m:Nat,vn=.int .i64 (m:Int)/\m<2 ^ i/\Aside0 (m=bval (xs.take i))) (fun _ _ vi _=>(k-intOf vi).toNat)
 case atStart=>exact⟨0,rfl,Nat.zero_le _,⟨Drawn.refl _⟩,0,rfl,Nat.one_pos,⟨rfl⟩⟩
 case round=>
  obtain⟨i,rfl,hi,HD,m,rfl,hm,HM⟩:=hrel
  by_cases hik:i<k
  ·obtain⟨t,ht⟩:∃ t,xs.getD i false=t:=⟨_,rfl⟩
   have hil:i<xs.length:=by rw [HN.out];omega
   have c0:wr.cell? ⟨q,o+i,none⟩=some (.bool t):=by
    obtain⟨mm,hmm⟩:=HD.out
    rw [hmm,<- ht]
    exact HC.out i hil
   have hm2:m<65536:=Nat.lt_of_lt_of_le hm (Nat.pow_le_pow_right (by omega) (show i<=16 by omega))
   have HNX:=Aside0.mk (show bval (xs.take (i+1))=2*m+t.toNat by rw [bval_take xs i hil,ht,HM.out])
   have HPW:=Aside0.mk (show 2*m+1<2 ^ (i+1) by rw [Nat.pow_succ];omega)
   clear ht hil hm
   cases t with
   | true=>
    go_wp2
    go_roundw
    case rel=>exact⟨i+1,by go_num,by omega,HD,2*m+1,by go_num,HPW.out,⟨HNX.out.symm⟩⟩
    case measure=>simp [intOf]<;>omega
   | false=>
    go_wp2
    go_roundw
    case rel=>exact⟨i+1,by go_num,by omega,HD,2*m,by go_num,by have:=HPW.out;omega,⟨HNX.out.symm⟩⟩
    case measure=>simp [intOf]<;>omega
  ·have:i=k:=by omega
   subst this
   have HTR:=Aside0.mk (fun W (h:Drawn w W)=>show TakeRes q xs n i (.returned (.tuple #[.int .i64 (m:Int),.slice (some ⟨q,o',none⟩) (n-i) (c-i),.bool true])) w W from ⟨o',c-i,by rw [HM.out],by omega,hDR.out W h,h⟩)
   go_wp2
   go_quiet (fail)
   go_wp2
   go_ret3
   exact HTR.out _ (HD.out.more _)
theorem takeNo (w:World)(q o n c k:Nat)(K:Int)(hK:K=(k:Int))(h:n<k):Calls Tryz.prog 57 #[.slice (some ⟨q,o,none⟩) n c,.int .i64 K] w fun e w'=>e=.returned (.tuple #[.int .i64 0,.slice (some ⟨q,o,none⟩) n c,.bool false])/\w'=w:=by
 subst hK
 go_enter Tryz.func57,Tryz.ntmps57
 go_wp2
 go_ret3
 exact⟨rfl,rfl⟩
theorem takeAt (w:World)(q o n c p k T:Nat)(K:Int)(hK:K=(k:Int))(ws:List Nat)(hC:CBits w q o ((streamBits ws).drop p))(hT:8*ws.length=T)(hn:n+p=T)(hc:n<=c)(hk16:k<=16)(hT2:T<=1000000)(hk:k<=n) :
  Calls Tryz.prog 57 #[.slice (some ⟨q,o,none⟩) n c,.int .i64 K] w fun e w'=>∃ o' c' n',e=.returned (.tuple #[.int .i64 ((rdBits ws p k:Nat):Int),.slice (some ⟨q,o',none⟩) n' c',.bool true])/\n'+k=n/\n'<=c'/\CBits w' q o' ((streamBits ws).drop (p+k))/\Drawn w w':=by
 subst hK
 have hl:((streamBits ws).drop p).length=n:=by rw [List.length_drop,streamBits_len,hT];omega
 refine (take57 w q o n c k _ hC hl hc hk hk16 (by omega)).mono ?_
 rintro e w' ⟨o',c',rfl,h1,h2,h3⟩
 rw [List.drop_drop] at h2
 exact⟨o',c',n-k,rfl,by omega,h1,h2,h3⟩
theorem byte_next (ws:List Nat)(p cn x T:Nat)(ys:List Int)(h0:0<cn)(hx:rdBits ws p 8=x) :
  (if p+8*cn<=T then some (ys++byteSeg ws p cn,p+8*cn) else none)=(if p+8+8*(cn-1)<=T then some (ys++[(x:Int)]++byteSeg ws (p+8) (cn-1),p+8+8*(cn-1)) else none):=by
 obtain⟨k,rfl⟩:∃ k,cn=k+1:=⟨cn-1,by omega⟩
 have e1:byteSeg ws p (k+1)=(x:Int) :: byteSeg ws (p+8) k:=by
  unfold byteSeg
  rw [List.range_succ_eq_map,List.map_cons,List.map_map,Nat.mul_zero,Nat.add_zero,hx]
  congr 1
  apply List.map_congr_left
  intro i _
  show ((rdBits ws (p+8*(i+1)) 8:Nat):Int)=_
  rw [show p+8*(i+1)=p+8+8*i by omega]
 rw [e1,Nat.add_sub_cancel,show p+8*(k+1)=p+8+8*k by omega,List.append_assoc]
 rfl
theorem CBits.grow {w w':World}{q o:Nat}{xs:List Bool}(h:CBits w q o xs){row:Option Nat}(hg:w.grownBy w' row)(hne:some q≠row):CBits w' q o xs:=fun i hi=>hg.cell (h i hi) hne
theorem own_not {w:World}{base n q:Nat}{v:Value}{hs:List Value}(h:w.ownsRow base 5 1 v n hs)(hq:q<base):some q≠v.ownBlock:=fun e=>by
 have:=own_base h q e.symm
 omega
theorem own_und5 {w w':World}{base n:Nat}{v:Value}{hs:List Value}(h:w.ownsRow base 5 1 v n hs)(hb:Below w.heap.size w w'):w'.ownsRow base 5 1 v n hs:=own_move h fun k hk=>by
 refine hb.block k ?_
 rcases h.2 with⟨rfl,_⟩ | ⟨g,cap,cur,rfl,_,hh,_⟩
 ·simp [Value.ownBlock] at hk
 ·obtain rfl:g=k:=by simpa [Value.ownBlock] using hk
  exact (Array.getElem?_eq_some_iff.1 hh).1
def SaidRes (w:World)(q T:Nat)(bits:List Bool)(r:Option (List Int×Nat))(e:Ending)(w':World):Prop :=
 match r with
 | some (ys,p)=>∃ v o' c' n',e=.returned (.tuple #[v,.slice (some ⟨q,o',none⟩) n' c',.bool true])/\n'+p=T/\n'<=c'/\w'.ownsRow w.heap.size 5 1 v ys.length (nums .u8 ys)/\CBits w' q o' (bits.drop p)/\Below w.heap.size w w'
 | none=>e=.returned (.tuple #[.slice none 0 0,.slice none 0 0,.bool false])/\Below w.heap.size w w'
theorem SaidRes.fine {w:World}{q T:Nat}{bits:List Bool}{r:Option (List Int×Nat)}{w':World}{v:Value}{o' c' n':Nat}{ys:List Int}{p:Nat}(hr:r=some (ys,p))(h1:n'+p=T)(h2:n'<=c')(h3:w'.ownsRow w.heap.size 5 1 v ys.length (nums .u8 ys))(h4:CBits w' q o' (bits.drop p))(h5:Below w.heap.size w w') :
  SaidRes w q T bits r (.returned (.tuple #[v,.slice (some ⟨q,o',none⟩) n' c',.bool true])) w':=by
 subst hr
 exact⟨v,o',c',n',rfl,h1,h2,h3,h4,h5⟩
theorem SaidRes.bad {w:World}{q T:Nat}{bits:List Bool}{r:Option (List Int×Nat)}{w':World}(hr:r=none)(h:Below w.heap.size w w'):SaidRes w q T bits r (.returned (.tuple #[.slice none 0 0,.slice none 0 0,.bool false])) w':=by
 subst hr
 exact⟨rfl,h⟩
set_option maxHeartbeats 8000000 in
set_option maxRecDepth 8000 in
theorem said59b (w:World)(q o n c p cnt T:Nat)(ws:List Nat)(hC:CBits w q o ((streamBits ws).drop p))(hq:q<w.heap.size)(hT:8*ws.length=T)(hn:n+p=T)(hc:n<=c)(hT2:T<=1000000)(hcnt:cnt<=100000) :
  Calls Tryz.prog 59 #[.slice (some ⟨q,o,none⟩) n c,.int .i64 4,.int .i64 (cnt:Int)] w (SaidRes w q T (streamBits ws) ((if p+8*cnt<=T then some (byteSeg ws p cnt,p+8*cnt) else none))):=by
 obtain⟨R,hR⟩:∃ R,(if p+8*cnt<=T then some (byteSeg ws p cnt,p+8*cnt) else none)=R:=⟨_,rfl⟩
 rw [hR]
 have HR:=Aside0.mk hR
 have HC:=Aside0.mk hC
 have HQ:=Aside0.mk hq
 have HT:=Aside0.mk hT
 have HN:=Aside0.mk hn
 have HCC:=Aside0.mk hc
 clear hR hC hq hT hn hc
 go_enter Tryz.func59,Tryz.ntmps59
 go_wp2
 go_loopw [0,2,9] (fun vl vc vo wr=>∃ (o c n p cn:Nat) (ys:List Int),vl=.slice (some ⟨q,o,none⟩) n c/\vc=.int .i64 (cn:Int)/\cn<=cnt/\n<=1000000/\Aside0 (n<=c)/\Aside0 (n+p=T)/\Aside0 (wr.ownsRow w.heap.size 5 1 vo ys.length (nums .u8 ys))/\Aside0 (CBits wr q o ((streamBits ws).drop p))/\Aside0 (Below w.heap.size w wr)/\Aside0 ((if p+8*cn<=T then some (ys++byteSeg ws p cn,p+8*cn) else none)=R)/\Aside0 (ys.length+cn<=cnt)) (fun _ vc _ _=>(intOf vc).toNat)
 case atStart=>exact⟨o,c,n,p,cnt,[],rfl,rfl,Nat.le_refl _,by have:=HN.out;omega,HCC,HN,⟨⟨rfl,.inl ⟨rfl,rfl⟩⟩⟩,HC,⟨Below.refl _ _⟩,⟨by rw [List.nil_append];exact HR.out⟩,⟨by simp⟩⟩
 case round=>
  clear HR HC HN HCC
  obtain⟨o,c,n,p,cn,ys,rfl,rfl,hcn,hn6,HCC,HN,HO,HC,HB,HR,HLEN⟩:=hrel
  have hq0:=HQ.out
  by_cases h0:0<cn
  ·by_cases hs:8<=n
   ·have kt:=takeAt wr q o n c p 8 T 8 rfl ws HC.out HT.out HN.out HCC.out (by omega) (by omega) hs
    obtain⟨x,hx⟩:∃ x,rdBits ws p 8=x:=⟨_,rfl⟩
    have hx8:x<256:=by rw [<- hx];exact rdBits_lt _ _ _
    have HR2:=Aside0.mk (byte_next ws p cn x T ys h0 hx)
    rw [hx] at kt
    clear hx
    go_wp2_with (first | (go_at_call 57;with_reducible (refine kt.mono ?_);rintro e w1 ⟨o1,c1,n1,rfl,hn1,hc1,hC1,hd1⟩;have HC1:=Aside0.mk hC1;have HB1:=Aside0.mk (HB.out.trans (hd1.below.mono HB.out.size));have HO1:=Aside0.mk (own_und5 HO.out hd1.below);clear hC1 hd1) | ((with_reducible refine gate_builtin (b:=.append) (xs:=#[.tmp 24,.tmp 27]) rfl ?_);at_builtin;refine print_append_num (w0:=w) w.heap.size rfl (.tmp 24) (.tmp 27) 26 5 .u8 1 rfl Tryz.underlying26 F.info5 (by decide) _ _ _ rfl rfl HO1.out HB1.out HB1.out.size ?aL ?_;(case aL=>(have:=HLEN.out;(try simp only [List.length_append,List.length_cons,List.length_nil]);omega));intro v_ w_ ho hb hg hat;have HO2:=Aside0.mk ho;have HB2:=Aside0.mk hb;have HC2:=Aside0.mk (HC1.out.grow hg (own_not HO1.out hq0));clear ho hb hg hat))
    go_roundw
    case rel=>exact⟨o1,c1,n1,p+8,cn-1,ys++[(x:Int)],rfl,by go_num,by omega,by omega,⟨hc1⟩,⟨by have:=HN.out;omega⟩,HO2,HC2,HB2,⟨by rw [<- HR2.out];exact HR.out⟩,⟨by have:=HLEN.out;simp only [List.length_append,List.length_cons,List.length_nil];omega⟩⟩
    case measure=>simp [intOf]<;>omega
   ·have kt:=takeNo wr q o n c 8 8 rfl (by omega)
    have hr:=HR.out
    rw [if_neg (by have:=HN.out;omega)] at hr
    have HR3:=Aside0.mk hr
    clear hr
    go_wp2_with (go_at_call 57;with_reducible (refine kt.mono ?_);rintro e w1 ⟨rfl,rfl⟩)
    go_ret3
    exact SaidRes.bad HR3.out.symm HB.out
  ·obtain rfl:cn=0:=by omega
   have hr:=HR.out
   rw [if_pos (by have:=HN.out;omega),show byteSeg ws p 0=[] from rfl,List.append_nil,Nat.mul_zero,Nat.add_zero] at hr
   have HR3:=Aside0.mk hr
   clear hr
   go_wp2
   go_ret3
   exact SaidRes.fine HR3.out.symm HN.out HCC.out HO.out HC.out HB.out
end Go.Proofs.YtgccjgpdjkhpdaaGreat.B
