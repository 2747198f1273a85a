import Derived.Laws.CopyRow
import Derived.Lib.Builder
import Derived.Test.YtgccjgpdjkhpdaaGreatVErrors19
open Go.Proofs.YtgccjgpdjkhpdaaGreatW.PrintWords.Aside0 renaming mk→Mw
open List renaming getD_eq_getElem?_getD→Mx,replicate→Mz,getElem?_eq_getElem→MA,length_cons→MB,map_cons→MD,length_replicate→ME,mem_cons_of_mem→MF,map_nil→MH,length_map→MI,filter_cons→MK,mem_cons_self→ML,getElem_mem→MM,nodup_cons→MN,replicate_succ→MO,map_toArray→MP,getElem?_eq_none→MR,getD_cons_succ→MS,take_of_length_le→MT,replicate_zero→MU,eq_nil_of_length_eq_zero→MV,getElem?_append_right→MW,mem_map_of_mem→MZ
open Nat renaming le_refl→My,sub_self→MC,le_trans→MG,zero_xor→MJ,two_pow_pos→MQ,pow_le_pow_right→MY
/-! Own texts of this claim, part 18. -/
namespace Go.Proofs.YtgccjgpdjkhpdaaGreat.B
open Go.RowKit Go.Proofs.YtgccjgpdjkhpdaaGreatW.PrintWords Go.Proofs.YtgccjgpdjkhpdaaGreatW.PrintLast Go.Proofs.YtgccjgpdjkhpdaaGreatW.PrintMore
set_option linter.unusedVariables false
set_option linter.unusedSimpArgs false
def Dp (w:World)(gf:Nat)(xs:List Nat)(e:Ending)(w':World):Prop:=∃ q,e=.returned (.pointer (some ⟨q,0,none⟩))/\aB w' q gf xs/\Below w.heap.size w w'
def iB (m p c:Nat)(xs:List Nat):List Nat:=if c=0 then [0] else if c=1 then xs else bJ (xs.map (fun x=>gm m p x c))
set_option maxHeartbeats 4000000 in
set_option maxRecDepth 8000 in
theorem xe (w:World)(q gf m p b c:Nat)(xs:List Nat)(F:aG m p)(hP:eA m p)(hm:m<=12)(hG:bF w gf m p b)(hQ:aB w q gf xs)(hx:ab m xs)(hc:c<2 ^ m)(hl:xs.length<=2000) :
  Calls Tryz.prog 195 #[.pointer (some ⟨q,0,none⟩),.int .i64 (c:Int)] w (Dp w gf (iB m p c xs)):=by
 by_cases h0:c=0
 ·subst h0;have c0:=hQ.field;have k1:=pI w gf m p b hG;clear hG hQ hx hc
  go_enter Tryz.func195,Tryz.ntmps195
  go_wp2_with (go_at_call 188;refine k1.mono ?_;rintro e w' ⟨z,rfl,hz,rfl⟩;have HZ:=Mw hz;clear hz)
  go_ret
  exact⟨z,rfl,HZ.out,Below.refl _ _⟩
 by_cases h9:c=1
 ·subst h9;have HQ:=Mw hQ;clear hG hQ hx hc
  go_enter Tryz.func195,Tryz.ntmps195
  go_wp2
  go_ret
  exact⟨q,rfl,HQ.out,Below.refl _ _⟩
 have hb:((c:Int)==0)=false:=by simp;omega
 have hb1:((c:Int)==1)=false:=by simp;omega
 obtain⟨n,hn⟩:∃ n,xs.length=n:=⟨_,rfl⟩;obtain⟨g,o,cx,h1,h2,h3,h4⟩:=hQ;have c0:w.cell? ⟨q,0,none⟩=some (.pointer (some ⟨gf,0,none⟩)):=h1.cell 0;have c1:w.cell? ⟨q,1,none⟩=some (.slice (some ⟨g,o,none⟩) xs.length cx):=h1.cell 1;rw [hn] at c1 h2 hl;have hmk:=kJ (n) (by omega) w;obtain⟨w1,hw1⟩:∃ w1,w1=w.alloc (.cells (ac .i64 (ak (Mz (n) 0))).toArray 3):=⟨_,rfl⟩;rw [<- hw1] at hmk;obtain⟨gs,hgs⟩:∃ gs,gs=w.heap.size:=⟨_,rfl⟩;have HB1:=Mw (show Below w.heap.size w w1 by rw [hw1];exact ai (Below.refl _ _) _)
 have HZ1:=Mw (show ag w1 gs (eE m p c xs (n) 0) by rw [hw1,hgs];unfold eE;rw [List.take_zero];exact Blk.new _ _ _)
 have HGS:=Mw hgs;rw [<- hgs] at hmk;have HG:=Mw hG;have H1:=Mw h1;have H3:=Mw h3;have HN:=Mw hn;have HX:=Mw hx;have HF:=Mw F;have HP:=Mw hP;have HC:=Mw hc;have H0:=Mw h0;have H9:=Mw h9;have HM:=Mw hm;have H4:=Mw h4;clear hw1 hgs hG h1 h3 hn hx F hP hc h0 h9 hm h4
 go_enter Tryz.func195,Tryz.ntmps195
 go_wp2_with fail
 go_loopw [7] (fun v wr=>∃ i:Nat,v=.int .i64 (i:Int)/\i<=n/\Aside0 (Below w.heap.size w wr)/\Aside0 (ag wr gs (eE m p c xs (n) i))) (fun v _=>(n-intOf v).toNat)
 case atStart=>exact⟨0,rfl,Nat.zero_le _,HB1,HZ1⟩
 case round=>
  clear HB1 HZ1 hmk c0 c1;obtain⟨i,rfl,hi,HB,HZ⟩:=hrel;have c0:wr.cell? ⟨q,0,none⟩=some (.pointer (some ⟨gf,0,none⟩)):=(H1.out.below HB.out H1.out.lt).cell 0;have c1:wr.cell? ⟨q,1,none⟩=some (.slice (some ⟨g,o,none⟩) n cx):=by
   have h:=(H1.out.below HB.out H1.out.lt).cell 1;rw [HN.out] at h;exact h
  by_cases hin:i<n;rotate_left
  ·have hie:i=n:=by omega
   subst hie;have hfl:eE m p c xs i i=xs.map (fun x=>gm m p x c):=by unfold eE;rw [MT (by rw [HN.out];exact My _),MC,MU,List.append_nil]
   have hlen:(xs.map (fun x=>gm m p x c)).length=i:=by simp [HN.out]
   have hZf:=HZ.out;rw [hfl] at hZf;have kp:=j8 wr gf gs 0 (i) _ (b6.whole hZf) (by rw [hlen];exact My _) (by intro h;rw [h] at hlen;have:i=0:=(by have h3:=congrArg id hlen;simp at h3;omega);exact H4.out (MV (by rw [HN.out,this]))) (by rw [hlen];omega)
   rw [hlen] at kp;have HPM:=Mw (show iB m p c xs=bJ (xs.map (fun x=>gm m p x c)) by unfold iB;rw [if_neg H0.out,if_neg H9.out])
   clear hfl hlen hZf
   go_wp2_with fail
   refine kp.mono ?_;rintro e w3 ⟨qn,rfl,_,hq,hb3⟩;have HQ:=Mw hq;have HB3:=Mw (HB.out.trans (hb3.mono HB.out.size));clear hq hb3 kp
   go_wp2_with fail
   go_ret
   exact⟨qn,rfl,by rw [HPM.out];exact HQ.out,HB3.out⟩
  have hx0:=(H3.out.below HB.out H3.out.lt).at_ i (by rw [HN.out];exact hin)
  obtain⟨x,hxx⟩:∃ x,xs.getD i 0=x:=⟨_,rfl⟩;rw [hxx] at hx0;have HXX:=Mw hxx;have k1:=fun k=>lw (wr.drewN k) gf m p b x c HF.out HP.out HM.out ((HG.out.below HB.out (My _)).drawn k) (by rw [<- hxx];exact aF HX.out i) HC.out
  have z1:wr.cell? ⟨gs,i,none⟩=some (.int .i64 0):=by
   have:=HZ.out.cell i (by rw [wZ m p c (n) i xs (by rw [HN.out];omega) (by rw [HN.out];omega)];omega)
   rw [xd m p c (n) i xs (by rw [HN.out];exact hin) (by rw [HN.out];omega)] at this
   exact this
  have z2:wr.frozen? ⟨gs,i,none⟩=false:=Blk.frozen HZ.out _;obtain⟨y,hy⟩:∃ y,gm m p x c=y:=⟨_,rfl⟩;rw [hy] at k1;have HZ2:=Mw (fun k=>show ag ((wr.drewN k).setCell ⟨gs,i,none⟩ (.int .i64 (y:Int))) gs (eE m p c xs (n) (i+1)) by
   have:=(show ag (wr.drewN k) gs (eE m p c xs (n) i) from Blk.below HZ.out (au (Below.refl wr.heap.size wr) k) (Blk.lt HZ.out)).set i y;rw [<- hy,<- HXX.out,wY m p c (n) i xs (by rw [HN.out];exact hin) (by rw [HN.out];omega),HXX.out,hy] at this
   exact this)
  have HBZ:=Mw (fun k=>(show Below w.heap.size w ((wr.drewN k).setCell ⟨gs,i,none⟩ (.int .i64 (y:Int))) from Below.setc (au HB.out k) (by rw [HGS.out];exact My _) _))
  clear hy hxx
  go_wp2
  have k2:Calls Tryz.prog 186 #[.pointer (some ⟨gf,0,none⟩),.int .i64 (x:Int),.int .i64 (c:Int)] wr.drew fun e w'=>e=.returned (.int .i64 (y:Int))/\∃ k,w'=wr.drewN k:=by
   refine (k1 1).mono ?_;rintro e w' ⟨h1,mm,h2⟩;exact⟨h1,1+mm,by rw [h2,World.drewN_drewN]⟩
  clear k1
  go_region_with (go_at_call 186;with_reducible (refine k2.mono ?_);rintro e w2 ⟨rfl,k,rfl⟩)
  all_goals
   clear k2
   go_wp2
   go_roundw
   case rel=>exact⟨i+1,by go_num,by omega,⟨HBZ.out _⟩,⟨HZ2.out _⟩⟩
   case measure=>simp [intOf];omega
def ek (S L:List Nat):List Nat:=L.take (L.length-S.length)++List.zipWith (fun a b=>a ^^^ b) S (L.drop (L.length-S.length))
theorem iC (S L:List Nat)(h:S.length<=L.length):(ek S L).length=L.length:=by
 unfold ek;simp;omega
theorem xf (S L:List Nat)(h:S.length<=L.length)(i:Nat)(h1:L.length-S.length<=i)(h2:i<L.length):(ek S L).getD i 0=S.getD (i-(L.length-S.length)) 0 ^^^ L.getD i 0:=by
 unfold ek;have hl:(L.take (L.length-S.length)).length=L.length-S.length:=by simp
 rw [Mx,MW (by omega),hl,List.getElem?_zipWith,List.getElem?_drop,Mx,Mx];rw [show L.length-S.length+(i-(L.length-S.length))=i by omega];rw [MA (show i-(L.length-S.length)<S.length by omega),MA h2];rfl
def fL (S L:List Nat)(i:Nat):List Nat:=(ek S L).take i++Mz (L.length-i) 0
theorem xg (S L:List Nat)(h:S.length<=L.length)(i:Nat)(h2:i<=L.length):(fL S L i).length=L.length:=by
 unfold fL;rw [List.length_append,List.length_take,ME,iC S L h];omega
theorem xh (S L:List Nat)(h:S.length<=L.length)(i:Nat)(h2:i<L.length):(fL S L i).getD i 0=0:=by
 unfold fL;have hl:((ek S L).take i).length=i:=by rw [List.length_take,iC S L h];omega
 rw [Mx,MW (by omega),hl,MC,show L.length-i=L.length-(i+1)+1 by omega,MO];rfl
theorem xi (S L:List Nat)(h:S.length<=L.length)(i:Nat)(h1:L.length-S.length<=i)(h2:i<L.length):(fL S L i).set i (S.getD (i-(L.length-S.length)) 0 ^^^ L.getD i 0)=fL S L (i+1):=by
 unfold fL;have hl:((ek S L).take i).length=i:=by rw [List.length_take,iC S L h];omega
 rw [List.set_append_right _ _ (by omega),hl,MC,show L.length-i=L.length-(i+1)+1 by omega,MO,List.set_cons_zero,pm (ek S L) i (by rw [iC S L h];exact h2),xf S L h i h1 h2,List.append_assoc]
 rfl
theorem xj (S L:List Nat)(h:S.length<=L.length):fL S L (L.length-S.length)=L.take (L.length-S.length)++Mz S.length 0:=by
 unfold fL ek;have hl:(L.take (L.length-S.length)).length=L.length-S.length:=by simp
 rw [List.take_append_of_le_length (by omega),MT (by omega),show L.length-(L.length-S.length)=S.length by omega]
theorem xk (S L:List Nat)(h:S.length<=L.length):fL S L L.length=ek S L:=by
 unfold fL;rw [MC,MU,List.append_nil,MT (by rw [iC S L h];exact My _)]
def dL (xs ys:List Nat):List Nat:=if xs.getD 0 0=0 then ys else if ys.getD 0 0=0 then xs else if ys.length<xs.length then bJ (ek ys xs) else bJ (ek xs ys)
theorem af.row (w:World)(g:Nat)(cs:Array Value):af w (w.setRow g cs) g:=⟨rfl,rfl,rfl,by simp [World.setRow],fun k hk=>by
 unfold World.setRow;simp [Array.getElem?_modify];intro h;exact absurd h.symm hk⟩
theorem xl (w:World)(gs g o zc c k:Nat)(xs zs:List Nat)(hB:ag w gs zs)(hR:b6 w g o xs)(hk:k<=xs.length)(hz:k<=zs.length) :
  ∃ w',(Builtin.copy_ #[93,93] 3 #[.slice (some ⟨gs,0,none⟩) zs.length zc,.slice (some ⟨g,o,none⟩) k c]).run Tryz.prog w=.ok (.int .i64 (k:Int)) w'/\ag w' gs (xs.take k++zs.drop k)/\af w w' gs:=by
 obtain⟨i,hi,_,hs,_⟩:=info_parts n9;have hl:(ac .i64 (ak (xs.take k))).length=k:=by simp [ac,ak];omega
 have h:=run_copy_row (P:=Tryz.prog) w 93 93 3 3 gs 0 zs.length zc ⟨g,o,none⟩ k c (ac .i64 (ak zs)).toArray 3 (ac .i64 (ak (xs.take k))) Tryz.underlying93 (by rw [hi];simp [hs]) hB (by rw [hl];exact (Nat.min_eq_left hz).symm) ?_ (by rw [hl];simp [ac,ak];omega) (by intro v hv;unfold ac at hv;obtain⟨a,_,rfl⟩:=List.mem_map.1 hv;rfl)
 rotate_left
 ·intro j v hv;have hj:j<k:=by
   have:=(List.getElem?_eq_some_iff.1 hv).1;rw [hl] at this;exact this
  have:=hR.at_ j (by omega);have ea:(Addr.add ⟨g,o,none⟩ j)=⟨g,o+j,none⟩:=by simp [Addr.add]
  rw [ea,this,<- hv];simp [ac,ak,List.getElem?_take,hj];rw [MA (show j<xs.length by omega)];rfl
 rw [hl] at h;refine⟨_,h,?_,af.row _ _ _⟩;unfold ag Blk;have e:(List.take 0 (ac .i64 (ak zs)).toArray.toList++ac .i64 (ak (xs.take k))++List.drop (0+k) (ac .i64 (ak zs)).toArray.toList)=ac .i64 (ak (xs.take k++zs.drop k)):=by
  simp [ac,ak]
 rw [e];unfold World.setRow;have hB':w.heap[gs]? = some (.cells (ac .i64 (ak zs)).toArray 3 (0,0)):=hB;simp [Array.getElem?_modify,hB']
end Go.Proofs.YtgccjgpdjkhpdaaGreat.B
namespace Go.Proofs.YtgccjgpdjkhpdaaGreat.B
open Go.Proofs.YtgccjgpdjkhpdaaGreat.F (pu_ ta_ no_ hv_ hvS_)
open Go.RowKit Go.Proofs.YtgccjgpdjkhpdaaGreatW.PrintWords Go.Proofs.YtgccjgpdjkhpdaaGreatW.PrintLast Go.Proofs.YtgccjgpdjkhpdaaGreatW.PrintMore
set_option linter.unusedVariables false
set_option linter.unusedSimpArgs false
theorem sF (g o n c k:Nat)(v:Int)(hv:v=(k:Int))(hk:k<=c)(hc:0<c)(W:World):(Instr.slice 93 (.slice (some ⟨g,o,none⟩) n c) none (some (.int .i64 v)) none).run Tryz.prog W=.ok (.slice (some ⟨g,o,none⟩) k c) W:=by
 subst hv;obtain⟨i,hi,hz,hs,hb⟩:=info_parts n9;have hel:Tryz.prog.elem 93=3:=by simp [Program.elem,Tryz.underlying93]
 have hu:Tryz.prog.underlying 93=some (.slice (Tryz.prog.elem 93)):=by rw [hel];exact Tryz.underlying93
 rw [run_slice_h W 93 (some ⟨g,o,none⟩) n c hu .i64 (k:Int) (Int.natCast_nonneg _) (by omega),hel];simp [sizeOf,typeInfo,hi,hs,sliced,Result.andThen,show ¬ c=0 by omega,Addr.add]
theorem xm (w:World)(a:Addr):(binOp .neq 134 (.pointer (some a)) (.pointer (some a))).run Tryz.prog w=.ok (.bool false) w:=by
 have h:(Tryz.prog.info? 233).isSome=true:=by kernel_rfl
 obtain⟨j,hj⟩:=Option.isSome_iff_exists.1 h;exact Lib.run_neq_ptr_same w a Tryz.underlying134 hj
def xn:Bool×List (List Nat×List Nat):=(true,[([],[]),([],[]),([],[]),([],[]),([],[]),([3,4],[3,4]),([2,5],[2,5]),([6],[6]),([],[]),([],[]),([8,9],[8,9]),([10],[10]),([7,11],[7,11]),([0,1,0,1,2,3,4,5,6,7,8,9,10,11,12],[0,1]),([13,12,12,0,1,2,3,4,5,6,7,8,9,10,11,12],[12,13])])
def B192:List Nat:=[0,0,0,0,0,24,60,124,0,0,768,1792,4092,8191,16383]
theorem xo:cH .any (lC Tryz.f192 17)=xn:=by kernel_rfl
theorem xp:iw xn.2 B192=true:=by kernel_rfl
set_option maxHeartbeats 4000000 in
set_option maxRecDepth 8000 in
theorem s7 (w:World)(q1 q2 gf m:Nat)(xs ys:List Nat)(hm:m<=12)(hX:aB w q1 gf xs)(hY:aB w q2 gf ys)(hx:ab m xs)(hy:ab m ys)(hl1:xs.length<=2000)(hl2:ys.length<=2000) :
  Calls Tryz.prog 192 #[.pointer (some ⟨q1,0,none⟩),.pointer (some ⟨q2,0,none⟩)] w (qq w gf (dL xs ys)):=by
 have c0:=hX.field;have c0':=hY.field;have knq:=fun k=>xm (w.drewN k) ⟨gf,0,none⟩
 have HX:=Mw hX;have HY:=Mw hY;have HLX:=Mw hx;have HLY:=Mw hy;clear hX hY hx hy
 go_enter Tryz.func192,Tryz.ntmps192
 go_wp2
 go_quiet (fail)
 clear knq;have HB:=Mw (au (Below.refl w.heap.size w) nq);have HX1:=Mw (HX.out.drawn nq);have HY1:=Mw (HY.out.drawn nq);obtain⟨wd,hwd⟩:∃ wd,w.drewN nq=wd:=⟨_,rfl⟩;rw [hwd] at HB HX1 HY1 ⊢;clear hwd c0 c0';have k1:=og wd q1 gf xs HX1.out (by omega);have k2:=og wd q2 gf ys HY1.out (by omega);by_cases h0:xs.getD 0 0=0
 ·rw [decide_eq_true h0] at k1;have HE:=Mw (show dL xs ys=ys by unfold dL;rw [if_pos h0])
  clear h0 k2
  go_wp2_with (go_at_call 190;refine k1.mono ?_;rintro e w' ⟨rfl,rfl⟩)
  go_ret2
  exact⟨q2,rfl,by rw [HE.out];exact HY1.out,HB.out⟩
 rw [decide_eq_false h0] at k1;by_cases h1:ys.getD 0 0=0
 ·rw [decide_eq_true h1] at k2;have HE:=Mw (show dL xs ys=xs by unfold dL;rw [if_neg h0,if_pos h1])
  clear h0 h1
  go_wp2_with fail
  with_reducible (refine k1.mono ?_)
  rintro e w' ⟨rfl,rfl⟩
  go_wp2_with fail
  with_reducible (refine k2.mono ?_)
  rintro e w' ⟨rfl,rfl⟩
  go_wp2_with fail
  go_ret2
  exact⟨q1,rfl,by rw [HE.out];exact HX1.out,HB.out⟩
 rw [decide_eq_false h1] at k2;obtain⟨g1,o1,cc1,a1,a2,a3,a4⟩:=HX1.out;obtain⟨g2,o2,cc2,b1,b2,b3,b4⟩:=HY1.out;have x1:wd.cell? ⟨q1,1,none⟩=some (.slice (some ⟨g1,o1,none⟩) xs.length cc1):=a1.cell 1;have y1:wd.cell? ⟨q2,1,none⟩=some (.slice (some ⟨g2,o2,none⟩) ys.length cc2):=b1.cell 1;have f0:wd.cell? ⟨q1,0,none⟩=some (.pointer (some ⟨gf,0,none⟩)):=a1.cell 0;have p1:0<xs.length:=List.length_pos_iff.2 a4;have p2:0<ys.length:=List.length_pos_iff.2 b4;obtain⟨n1,hn1⟩:∃ n1,xs.length=n1:=⟨_,rfl⟩;obtain⟨n2,hn2⟩:∃ n2,ys.length=n2:=⟨_,rfl⟩;by_cases hsw:ys.length<xs.length
 ·have hpa:dL xs ys=bJ (ek ys xs):=by unfold dL;rw [if_neg h0,if_neg h1,if_pos hsw]
  have hle:(ys).length<=(xs).length:=by omega
  obtain⟨dl,hdl⟩:∃ dl,(xs).length-(ys).length=dl:=⟨_,rfl⟩;have hmk:=kJ n1 (by omega) wd;obtain⟨w1,hw1⟩:∃ w1,w1=wd.alloc (.cells (ac .i64 (ak (Mz n1 0))).toArray 3):=⟨_,rfl⟩;rw [<- hw1] at hmk;obtain⟨gs,hgs⟩:∃ gs,gs=wd.heap.size:=⟨_,rfl⟩;have HB1:=Mw (show Below wd.heap.size wd w1 by rw [hw1];exact ai (Below.refl _ _) _)
  have hZ1:ag w1 gs (Mz n1 0):=by rw [hw1,hgs];exact Blk.new _ _ _
  rw [<- hgs] at hmk;obtain⟨w2,hcp,hZ2,hT2⟩:=xl w1 gs g1 o1 n1 cc1 dl xs (Mz n1 0) hZ1 (a3.below HB1.out a3.lt) (by omega) (by simp;omega)
  rw [ME] at hcp;rw [List.drop_replicate,show n1-dl=(ys).length by omega,<- hdl,<- xj ys xs hle,hdl] at hZ2;have HB2:=Mw (HB1.out.trans (hT2.below (by rw [hgs];exact My _)))
  have HZ2:=Mw hZ2;have hdi:(n1:Int)-(n2:Int)=(dl:Int):=by omega
  have hct:=sF g1 o1 n1 cc1 dl (dl:Int) rfl (by omega) (by omega);have hdl5:dl<=n1:=by omega
  have hnl5:n1<=2000:=by omega
  have hnl0:0<n1:=by omega
  have HPA:=Mw hpa;have HA1:=Mw a1;have HA3:=Mw a3;have HB3:=Mw b3;have HN1:=Mw hn1;have HN2:=Mw hn2;have HLE:=Mw hle;have HDL:=Mw hdl;have HGS:=Mw hgs;rw [hn1] at x1 hsw;rw [hn2] at y1 hsw;clear a1 a3 b1 b3 hpa hle hw1 hgs hZ1 hZ2 hT2 h0 h1 a4 b4 hn1 hn2 hdl
  go_wp2_with fail
  with_reducible (refine k1.mono ?_)
  rintro e w' ⟨rfl,rfl⟩
  go_wp2_with fail
  with_reducible (refine k2.mono ?_)
  rintro e w' ⟨rfl,rfl⟩;obtain⟨wd,hwd⟩:∃ wd,wd=w':=⟨_,rfl⟩;subst hwd;clear k1 k2
  go_wp2_with fail
  clear hcp hmk hct hdi x1 y1;have HGS2:=Mw (show wd.heap.size<=gs by rw [HGS.out];exact My _)
  go_loopw [10] (fun vi wr=>∃ i:Nat,vi=.int .i64 (i:Int)/\dl<=i/\i<=n1/\Aside0 (Below wd.heap.size wd wr)/\Aside0 (ag wr gs (fL ys xs i))) (fun vi _=>(n1-intOf vi).toNat)
  case atStart=>exact⟨dl,rfl,My _,hdl5,HB2,HZ2⟩
  case round=>
   clear HB2 HZ2 HB1;obtain⟨i,rfl,hdi,hin,HBr,HZ⟩:=hrel;by_cases hlt:i<n1;rotate_left
   ·have hie:i=n1:=by omega
    subst hie;have hf:=HZ.out;have hfl:=xk ys xs HLE.out;rw [HN1.out] at hfl;rw [hfl] at hf;have hlen:=iC ys xs HLE.out;rw [HN1.out] at hlen;have kp:=j8 wr gf gs 0 i _ (b6.whole hf) (by rw [hlen];exact My _) (by intro h;rw [h] at hlen;simp at hlen;omega) (by rw [hlen];omega)
    rw [hlen,<- HPA.out] at kp;have f1:wr.cell? ⟨q1,0,none⟩=some (.pointer (some ⟨gf,0,none⟩)):=(HX1.out.below HBr.out (My _)).field;clear hf hfl hlen
    go_wp2_with fail
    with_reducible (refine kp.mono ?_)
    rintro e w3 ⟨qn,rfl,_,hq,hb3⟩;have HQ:=Mw hq;have HB9:=Mw ((HB.out.trans (HBr.out.mono HB.out.size)).trans (hb3.mono (MG HB.out.size HBr.out.size)));clear hq hb3 kp
    go_wp2_with fail
    go_ret2
    exact⟨qn,rfl,HQ.out,HB9.out⟩
   obtain⟨j,hj⟩:∃ j,i-dl=j:=⟨_,rfl⟩;have hji:(i:Int)-(dl:Int)=(j:Int):=by omega
   have HJ3:=Mw (show wrap64 (j:Int)=(j:Int) by unfold wrap64;omega)
   have HJ4:=Mw (show wrap64 ((i:Int)-(dl:Int))=(j:Int) by rw [hji];exact HJ3.out)
   have hjs:j<n2:=by have:=HDL.out;have:=HN1.out;have:=HN2.out;omega
   have r1:=(HB3.out.below HBr.out HB3.out.lt).at_ j (by rw [HN2.out];exact hjs)
   have r2:=(HA3.out.below HBr.out HA3.out.lt).at_ i (by rw [HN1.out];exact hlt)
   obtain⟨x,hx⟩:∃ x,(ys).getD j 0=x:=⟨_,rfl⟩;obtain⟨y,hy⟩:∃ y,(xs).getD i 0=y:=⟨_,rfl⟩;rw [hx] at r1;rw [hy] at r2;have hp12:2 ^ m<=4096:=MG (MY (by omega) hm) (by decide);have hx4:x<4294967296:=by have:=aF HLY.out j;rw [hx] at this;omega
   have hy4:y<4294967296:=by have:=aF HLX.out i;rw [hy] at this;omega
   obtain⟨z,hz⟩:∃ z,x ^^^ y=z:=⟨_,rfl⟩;have km:∀ W,Calls Tryz.prog 184 #[.int .i64 (x:Int),.int .i64 (y:Int)] W fun e w'=>e=.returned (.int .i64 (z:Int))/\∃ k,w'=W.drewN k:=fun W=>by
    rw [<- hz];refine (oc W x y hx4 hy4).mono ?_;rintro e w' ⟨h1,h2⟩;exact⟨h1,0,h2⟩
   have z1:wr.cell? ⟨gs,i,none⟩=some (.int .i64 0):=by
    have:=HZ.out.cell i (by rw [xg ys xs HLE.out i (by rw [HN1.out];exact hin),HN1.out];exact hlt)
    rw [xh ys xs HLE.out i (by rw [HN1.out];exact hlt)] at this
    exact this
   have z2:wr.frozen? ⟨gs,i,none⟩=false:=Blk.frozen HZ.out _;have HZ2:=Mw (fun k=>show ag ((wr.drewN k).setCell ⟨gs,i,none⟩ (.int .i64 (z:Int))) gs (fL ys xs (i+1)) by
    have:=(show ag (wr.drewN k) gs (fL ys xs i) from Blk.below HZ.out (au (Below.refl wr.heap.size wr) k) (Blk.lt HZ.out)).set i z;rw [<- hz,<- hx,<- hy,<- hj,<- HDL.out,xi ys xs HLE.out i (by rw [HDL.out];exact hdi) (by rw [HN1.out];exact hlt),HDL.out,hj,hx,hy,hz] at this
    exact this)
   have HBZ:=Mw (fun k=>(show Below wd.heap.size wd ((wr.drewN k).setCell ⟨gs,i,none⟩ (.int .i64 (z:Int))) from Below.setc (au HBr.out k) HGS2.out _));clear hx hy hz hp12 hx4 hy4 hj
   go_wp2
   have e1:=eq_true (show (0:Int)<=(j:Int) by omega);have e2:=eq_true (show (j:Int)<(n2:Int) by omega);have e3:=eq_true (show (0:Int)<=(i:Int) by omega);have e4:=eq_true (show (i:Int)<(n1:Int) by omega);have hjw3:=HJ3.out;have hjw4:=HJ4.out;refine ji (n:=15) (S:=fun w'=>w'.cell? ⟨g2,o2+j,none⟩=some (.int .i64 (x:Int))/\w'.cell? ⟨g1,o1+i,none⟩=some (.int .i64 (y:Int))) (ds:=[14]) #[false,false,false,false,false,false,false,false,false,false,false,false,false,false,false] (by kernel_rfl) rfl rfl ⟨r1,r2⟩ (fun hHeld=>?_);refine jn xo xp (fun HT_ HW_=>?_);refine pu_ 0 62 HT_ ?_;refine pu_ 1 63 HT_ ?_;refine pu_ 2 64 HT_ ?_;refine pu_ 3 65 HT_ ?_;refine pu_ 4 66 HT_ ?_;refine pu_ 8 70 HT_ ?_;refine pu_ 9 71 HT_ ?_;refine pu_ 5 67 HT_ ?_;refine pu_ 6 68 HT_ ?_;refine pu_ 10 72 HT_ ?_;refine ta_ 7 69 HT_ HW_ hHeld ?_;refine ta_ 11 73 HT_ HW_ hHeld ?_;refine hJ (i:=12) (N:=some 74) #[true,true,true,true,true,true,true,true,true,true,true,true,true,false,false] rfl rfl (dJ HT_.out (by kernel_rfl)) (by decide) (fun K hK=>?_);refine ia Tryz.func184 (by kernel_rfl) rfl #[.int .i64 (x:Int),.int .i64 (y:Int)] (by rfl) rfl rfl (by (try simp only [MP,MD,MH]);first | done | rfl) ?_
   refine (km _).mono ?_;rintro e0 w5 ⟨rfl,nd,rfl⟩;refine⟨_,rfl,?_⟩;refine hK.out _ _ ⟨r1,r2⟩ (fun hHeld=>?_);clear hK K;refine no_ ?_;refine pu_ 13 75 HT_ ?_;refine jj (i:=14) (N:=none) #[true,true,true,true,true,true,true,true,true,true,true,true,true,true,true] rfl rfl (dJ HT_.out (by kernel_rfl)) (by decide) (fun K hK=>?_);refine jl (w1:=?_) (by rfl) rfl ?_ ?_;rotate_left
   ·go_simp
    rfl
   refine hK.out _ _ ?_;clear hK K;refine jk (jm HT_.out (by kernel_rfl)) ?_;clear hjw3 hjw4 r1 r2 z1 z2 hHeld HT_ HW_ km e1 e2 e3 e4
   go_wp2
   go_roundw
   case rel=>exact⟨i+1,by go_num,by omega,by omega,⟨HBZ.out _⟩,⟨HZ2.out _⟩⟩
   case measure=>simp [intOf];omega
 have hpa:dL xs ys=bJ (ek xs ys):=by unfold dL;rw [if_neg h0,if_neg h1,if_neg hsw]
 have hle:(xs).length<=(ys).length:=by omega
 obtain⟨dl,hdl⟩:∃ dl,(ys).length-(xs).length=dl:=⟨_,rfl⟩;have hmk:=kJ n2 (by omega) wd;obtain⟨w1,hw1⟩:∃ w1,w1=wd.alloc (.cells (ac .i64 (ak (Mz n2 0))).toArray 3):=⟨_,rfl⟩;rw [<- hw1] at hmk;obtain⟨gs,hgs⟩:∃ gs,gs=wd.heap.size:=⟨_,rfl⟩;have HB1:=Mw (show Below wd.heap.size wd w1 by rw [hw1];exact ai (Below.refl _ _) _)
 have hZ1:ag w1 gs (Mz n2 0):=by rw [hw1,hgs];exact Blk.new _ _ _
 rw [<- hgs] at hmk;obtain⟨w2,hcp,hZ2,hT2⟩:=xl w1 gs g2 o2 n2 cc2 dl ys (Mz n2 0) hZ1 (b3.below HB1.out b3.lt) (by omega) (by simp;omega)
 rw [ME] at hcp;rw [List.drop_replicate,show n2-dl=(xs).length by omega,<- hdl,<- xj xs ys hle,hdl] at hZ2;have HB2:=Mw (HB1.out.trans (hT2.below (by rw [hgs];exact My _)))
 have HZ2:=Mw hZ2;have hdi:(n2:Int)-(n1:Int)=(dl:Int):=by omega
 have hct:=sF g2 o2 n2 cc2 dl (dl:Int) rfl (by omega) (by omega);have hdl5:dl<=n2:=by omega
 have hnl5:n2<=2000:=by omega
 have hnl0:0<n2:=by omega
 have HPA:=Mw hpa;have HA1:=Mw a1;have HA3:=Mw a3;have HB3:=Mw b3;have HN1:=Mw hn1;have HN2:=Mw hn2;have HLE:=Mw hle;have HDL:=Mw hdl;have HGS:=Mw hgs;rw [hn1] at x1 hsw;rw [hn2] at y1 hsw;clear a1 a3 b1 b3 hpa hle hw1 hgs hZ1 hZ2 hT2 h0 h1 a4 b4 hn1 hn2 hdl
 go_wp2_with fail
 with_reducible (refine k1.mono ?_)
 rintro e w' ⟨rfl,rfl⟩
 go_wp2_with fail
 with_reducible (refine k2.mono ?_)
 rintro e w' ⟨rfl,rfl⟩;obtain⟨wd,hwd⟩:∃ wd,wd=w':=⟨_,rfl⟩;subst hwd;clear k1 k2
 go_wp2_with fail
 clear hcp hmk hct hdi x1 y1;have HGS2:=Mw (show wd.heap.size<=gs by rw [HGS.out];exact My _)
 go_loopw [10] (fun vi wr=>∃ i:Nat,vi=.int .i64 (i:Int)/\dl<=i/\i<=n2/\Aside0 (Below wd.heap.size wd wr)/\Aside0 (ag wr gs (fL xs ys i))) (fun vi _=>(n2-intOf vi).toNat)
 case atStart=>exact⟨dl,rfl,My _,hdl5,HB2,HZ2⟩
 case round=>
  clear HB2 HZ2 HB1;obtain⟨i,rfl,hdi,hin,HBr,HZ⟩:=hrel;by_cases hlt:i<n2;rotate_left
  ·have hie:i=n2:=by omega
   subst hie;have hf:=HZ.out;have hfl:=xk xs ys HLE.out;rw [HN2.out] at hfl;rw [hfl] at hf;have hlen:=iC xs ys HLE.out;rw [HN2.out] at hlen;have kp:=j8 wr gf gs 0 i _ (b6.whole hf) (by rw [hlen];exact My _) (by intro h;rw [h] at hlen;simp at hlen;omega) (by rw [hlen];omega)
   rw [hlen,<- HPA.out] at kp;have f1:wr.cell? ⟨q1,0,none⟩=some (.pointer (some ⟨gf,0,none⟩)):=(HX1.out.below HBr.out (My _)).field;clear hf hfl hlen
   go_wp2_with fail
   with_reducible (refine kp.mono ?_)
   rintro e w3 ⟨qn,rfl,_,hq,hb3⟩;have HQ:=Mw hq;have HB9:=Mw ((HB.out.trans (HBr.out.mono HB.out.size)).trans (hb3.mono (MG HB.out.size HBr.out.size)));clear hq hb3 kp
   go_wp2_with fail
   go_ret2
   exact⟨qn,rfl,HQ.out,HB9.out⟩
  obtain⟨j,hj⟩:∃ j,i-dl=j:=⟨_,rfl⟩;have hji:(i:Int)-(dl:Int)=(j:Int):=by omega
  have HJ3:=Mw (show wrap64 (j:Int)=(j:Int) by unfold wrap64;omega)
  have HJ4:=Mw (show wrap64 ((i:Int)-(dl:Int))=(j:Int) by rw [hji];exact HJ3.out)
  have hjs:j<n1:=by have:=HDL.out;have:=HN2.out;have:=HN1.out;omega
  have r1:=(HA3.out.below HBr.out HA3.out.lt).at_ j (by rw [HN1.out];exact hjs)
  have r2:=(HB3.out.below HBr.out HB3.out.lt).at_ i (by rw [HN2.out];exact hlt)
  obtain⟨x,hx⟩:∃ x,(xs).getD j 0=x:=⟨_,rfl⟩;obtain⟨y,hy⟩:∃ y,(ys).getD i 0=y:=⟨_,rfl⟩;rw [hx] at r1;rw [hy] at r2;have hp12:2 ^ m<=4096:=MG (MY (by omega) hm) (by decide);have hx4:x<4294967296:=by have:=aF HLX.out j;rw [hx] at this;omega
  have hy4:y<4294967296:=by have:=aF HLY.out i;rw [hy] at this;omega
  obtain⟨z,hz⟩:∃ z,x ^^^ y=z:=⟨_,rfl⟩;have km:∀ W,Calls Tryz.prog 184 #[.int .i64 (x:Int),.int .i64 (y:Int)] W fun e w'=>e=.returned (.int .i64 (z:Int))/\∃ k,w'=W.drewN k:=fun W=>by
   rw [<- hz];refine (oc W x y hx4 hy4).mono ?_;rintro e w' ⟨h1,h2⟩;exact⟨h1,0,h2⟩
  have z1:wr.cell? ⟨gs,i,none⟩=some (.int .i64 0):=by
   have:=HZ.out.cell i (by rw [xg xs ys HLE.out i (by rw [HN2.out];exact hin),HN2.out];exact hlt)
   rw [xh xs ys HLE.out i (by rw [HN2.out];exact hlt)] at this
   exact this
  have z2:wr.frozen? ⟨gs,i,none⟩=false:=Blk.frozen HZ.out _;have HZ2:=Mw (fun k=>show ag ((wr.drewN k).setCell ⟨gs,i,none⟩ (.int .i64 (z:Int))) gs (fL xs ys (i+1)) by
   have:=(show ag (wr.drewN k) gs (fL xs ys i) from Blk.below HZ.out (au (Below.refl wr.heap.size wr) k) (Blk.lt HZ.out)).set i z;rw [<- hz,<- hx,<- hy,<- hj,<- HDL.out,xi xs ys HLE.out i (by rw [HDL.out];exact hdi) (by rw [HN2.out];exact hlt),HDL.out,hj,hx,hy,hz] at this
   exact this)
  have HBZ:=Mw (fun k=>(show Below wd.heap.size wd ((wr.drewN k).setCell ⟨gs,i,none⟩ (.int .i64 (z:Int))) from Below.setc (au HBr.out k) HGS2.out _));clear hx hy hz hp12 hx4 hy4 hj
  go_wp2
  have e1:=eq_true (show (0:Int)<=(j:Int) by omega);have e2:=eq_true (show (j:Int)<(n1:Int) by omega);have e3:=eq_true (show (0:Int)<=(i:Int) by omega);have e4:=eq_true (show (i:Int)<(n2:Int) by omega);have hjw3:=HJ3.out;have hjw4:=HJ4.out;refine ji (n:=15) (S:=fun w'=>w'.cell? ⟨g1,o1+j,none⟩=some (.int .i64 (x:Int))/\w'.cell? ⟨g2,o2+i,none⟩=some (.int .i64 (y:Int))) (ds:=[14]) #[false,false,false,false,false,false,false,false,false,false,false,false,false,false,false] (by kernel_rfl) rfl rfl ⟨r1,r2⟩ (fun hHeld=>?_);refine jn xo xp (fun HT_ HW_=>?_);refine pu_ 0 62 HT_ ?_;refine pu_ 1 63 HT_ ?_;refine pu_ 2 64 HT_ ?_;refine pu_ 3 65 HT_ ?_;refine pu_ 4 66 HT_ ?_;refine pu_ 8 70 HT_ ?_;refine pu_ 9 71 HT_ ?_;refine pu_ 5 67 HT_ ?_;refine pu_ 6 68 HT_ ?_;refine pu_ 10 72 HT_ ?_;refine ta_ 7 69 HT_ HW_ hHeld ?_;refine ta_ 11 73 HT_ HW_ hHeld ?_;refine hJ (i:=12) (N:=some 74) #[true,true,true,true,true,true,true,true,true,true,true,true,true,false,false] rfl rfl (dJ HT_.out (by kernel_rfl)) (by decide) (fun K hK=>?_);refine ia Tryz.func184 (by kernel_rfl) rfl #[.int .i64 (x:Int),.int .i64 (y:Int)] (by rfl) rfl rfl (by (try simp only [MP,MD,MH]);first | done | rfl) ?_
  refine (km _).mono ?_;rintro e0 w5 ⟨rfl,nd,rfl⟩;refine⟨_,rfl,?_⟩;refine hK.out _ _ ⟨r1,r2⟩ (fun hHeld=>?_);clear hK K;refine no_ ?_;refine pu_ 13 75 HT_ ?_;refine jj (i:=14) (N:=none) #[true,true,true,true,true,true,true,true,true,true,true,true,true,true,true] rfl rfl (dJ HT_.out (by kernel_rfl)) (by decide) (fun K hK=>?_);refine jl (w1:=?_) (by rfl) rfl ?_ ?_;rotate_left
  ·go_simp
   rfl
  refine hK.out _ _ ?_;clear hK K;refine jk (jm HT_.out (by kernel_rfl)) ?_;clear hjw3 hjw4 r1 r2 z1 z2 hHeld HT_ HW_ km e1 e2 e3 e4
  go_wp2
  go_roundw
  case rel=>exact⟨i+1,by go_num,by omega,by omega,⟨HBZ.out _⟩,⟨HZ2.out _⟩⟩
  case measure=>simp [intOf];omega
end Go.Proofs.YtgccjgpdjkhpdaaGreat.B
namespace Go.Proofs.YtgccjgpdjkhpdaaGreat.B
open Go.RowKit Go.Proofs.YtgccjgpdjkhpdaaGreatW.PrintWords Go.Proofs.YtgccjgpdjkhpdaaGreatW.PrintLast Go.Proofs.YtgccjgpdjkhpdaaGreatW.PrintMore
set_option linter.unusedVariables false
set_option linter.unusedSimpArgs false
def gn (xs:List Nat):Prop:=xs≠[]/\(xs.length=1\/xs.getD 0 0≠0)
theorem xq (xs:List Nat)(h:xs≠[]):bJ (0 :: xs)=bJ xs:=by
 unfold bJ;rw [List.dropWhile_cons,if_pos (by rfl)]
theorem oN (xs:List Nat):gn (bJ xs):=by
 induction xs with
 | nil=>exact⟨by simp [bJ],.inl (by simp [bJ])⟩
 | cons x xs ih=>
  by_cases hx:x=0;rotate_left
  ·have:bJ (x :: xs)=x :: xs:=uD (.inr hx) (by simp);rw [this];exact⟨by simp,.inr hx⟩
  subst hx;cases xs with
  | nil=>exact⟨by simp [bJ],.inl (by simp [bJ])⟩
  | cons y ys=>rw [xq _ (by simp)];exact ih
theorem s8 (d c:Nat):gn (dR d c):=by
 unfold dR;by_cases h:c=0
 ·rw [if_pos h];exact⟨by simp,.inl rfl⟩
 rw [if_neg h];exact⟨by simp,.inr h⟩
theorem xt (m p d c:Nat)(xs:List Nat):gn (fK m p d c xs):=by
 unfold fK;by_cases h:c=0
 ·rw [if_pos h];exact⟨by simp,.inl rfl⟩
 rw [if_neg h];exact oN _
theorem xu (m p c:Nat)(xs:List Nat)(h:gn xs):gn (iB m p c xs):=by
 unfold iB
 split
 ·exact⟨by simp,.inl rfl⟩
 split
 ·exact h
 exact oN _
theorem xv (xs ys:List Nat)(h:gn xs)(k:gn ys):gn (dL xs ys):=by
 unfold dL
 split
 ·exact k
 split
 ·exact h
 split<;>exact oN _
theorem jq (m n:Nat):ab m (Mz n 0):=by
 intro x hx;rw [(List.mem_replicate.1 hx).2];exact MQ m
theorem ab.app {m:Nat}{xs ys:List Nat}(h:ab m xs)(k:ab m ys):ab m (xs++ys):=by
 intro x hx;rcases List.mem_append.1 hx with h' | h'
 ·exact h x h'
 exact k x h'
theorem xw {m:Nat}{S L:List Nat}(h:ab m S)(k:ab m L):ab m (ek S L):=by
 unfold ek;refine ab.app (fun x hx=>k x (List.mem_of_mem_take hx)) ?_;intro x hx;obtain⟨i,hi,rfl⟩:=List.mem_iff_getElem.1 hx;rw [List.getElem_zipWith];exact fZ _ _ _ (h _ (MM _)) (k _ (List.mem_of_mem_drop (MM _)))
theorem xx {m:Nat}{xs ys:List Nat}(h:ab m xs)(k:ab m ys):ab m (dL xs ys):=by
 unfold dL
 split
 ·exact k
 split
 ·exact h
 split
 ·exact lI (xw k h)
 exact lI (xw h k)
theorem xy {m p:Nat}(F:aG m p){xs:List Nat}(h:ab m xs)(c:Nat):ab m (xs.map fun x=>gm m p x c):=by
 intro x hx;obtain⟨y,hy,rfl⟩:=List.mem_map.1 hx;exact cD F y c (h y hy)
theorem s9 {m:Nat}(d c:Nat)(hc:c<2 ^ m):ab m (dR d c):=by
 unfold dR
 split
 ·exact jq m 1
 intro x hx;rcases List.mem_cons.1 hx with h | h
 ·rw [h];exact hc
 exact jq m d x h
theorem xz {m p:Nat}(F:aG m p)(d c:Nat){xs:List Nat}(h:ab m xs):ab m (fK m p d c xs):=by
 unfold fK
 split
 ·exact jq m 1
 exact lI ((xy F h c).app (jq m d))
theorem xA {m p:Nat}(F:aG m p)(c:Nat){xs:List Nat}(h:ab m xs):ab m (iB m p c xs):=by
 unfold iB
 split
 ·exact jq m 1
 split
 ·exact h
 exact lI (xy F h c)
theorem qu (xs:List Nat)(i:Nat):xs.reverse.getD i 0=if i<xs.length then xs.getD (xs.length-1-i) 0 else 0:=by
 rw [Mx,Mx];by_cases h:i<xs.length
 ·rw [if_pos h,List.getElem?_reverse h]
 rw [if_neg h,MR (by simp;omega)]
 rfl
def gq (m p:Nat)(z ys:List Nat)(a i:Nat):Nat->List Nat
 | 0=>z
 | j+1=>(gq m p z ys a i j).set (i+j) ((gq m p z ys a i j).getD (i+j) 0 ^^^ gm m p a (ys.getD j 0))
def dS (m p:Nat)(xs ys:List Nat):Nat->List Nat
 | 0=>Mz (xs.length+ys.length-1) 0
 | i+1=>gq m p (dS m p xs ys i) ys (xs.getD i 0) i ys.length
def eN (m p:Nat)(xs ys:List Nat):List Nat:=if xs.getD 0 0=0 then [0] else if ys.getD 0 0=0 then [0] else bJ (dS m p xs ys xs.length)
theorem ta (m p:Nat)(z ys:List Nat)(a i j:Nat):(gq m p z ys a i j).length=z.length:=by
 induction j with
 | zero=>rfl
 | succ j ih=>rw [gq,List.length_set,ih]
theorem qv (m p:Nat)(xs ys:List Nat)(i:Nat):(dS m p xs ys i).length=xs.length+ys.length-1:=by
 induction i with
 | zero=>rw [dS,ME]
 | succ i ih=>rw [dS,ta,ih]
theorem xB {m:Nat}{xs:List Nat}(h:ab m xs)(i v:Nat)(hv:v<2 ^ m):ab m (xs.set i v):=by
 intro x hx;rcases List.mem_or_eq_of_mem_set hx with h' | h'
 ·exact h x h'
 rw [h'];exact hv
theorem tb {m p:Nat}(F:aG m p){z ys:List Nat}(a i j:Nat)(h:ab m z)(ha:a<2 ^ m):ab m (gq m p z ys a i j):=by
 induction j with
 | zero=>exact h
 | succ j ih=>exact xB ih _ _ (fZ _ _ _ (aF ih _) (cD F _ _ ha))
theorem tc {m p:Nat}(F:aG m p){xs ys:List Nat}(i:Nat)(h:ab m xs):ab m (dS m p xs ys i):=by
 induction i with
 | zero=>exact jq m _
 | succ i ih=>exact tb F _ _ _ ih (aF h i)
theorem xC (m p:Nat)(xs ys:List Nat):gn (eN m p xs ys):=by
 unfold eN
 split
 ·exact⟨by simp,.inl rfl⟩
 split
 ·exact⟨by simp,.inl rfl⟩
 exact oN _
theorem xD {m p:Nat}(F:aG m p){xs ys:List Nat}(h:ab m xs):ab m (eN m p xs ys):=by
 unfold eN
 split
 ·exact jq m 1
 split
 ·exact jq m 1
 exact lI (tc F _ h)
namespace Po
variable {m p:Nat}
def an (m p a:Nat):El m p:=⟨a%2 ^ m,Nat.mod_lt _ (MQ m)⟩
theorem jr {a:Nat}(h:a<2 ^ m):(an m p a).v=a:=Nat.mod_eq_of_lt h
variable [F:FF m p]
theorem fq:an m p 0=0:=have _:=F;El.ext' (Nat.zero_mod _)
theorem jS:an m p 1=1:=El.ext' (jr (dm (p:=p) F.fld 0))
theorem oO {a b:Nat}(ha:a<2 ^ m)(hb:b<2 ^ m):an m p (a ^^^ b)=an m p a+an m p b:=by
 apply El.ext';rw [El.v_add,jr ha,jr hb,jr (fZ _ _ _ ha hb)]
theorem ij {a b:Nat}(ha:a<2 ^ m)(hb:b<2 ^ m):an m p (gm m p a b)=an m p a*an m p b:=by
 apply El.ext';rw [El.v_mul,jr ha,jr hb,jr (cD F.fld a b ha)]
theorem jT {a b:Nat}(ha:a<2 ^ m)(hb:b<2 ^ m)(h:an m p a=an m p b):a=b:=by
 have _:=F;have:=congrArg El.v h
 rwa [jr ha,jr hb] at this
theorem ng {a:Nat}(ha:a<2 ^ m)(h:a≠0):an m p a≠0:=fun e=>h (jT ha (MQ m) (e.trans fq.symm))
def ap (m p:Nat)(xs:List Nat):Po m p:=fun i=>an m p (xs.reverse.getD i 0)
theorem lJ (xs:List Nat)(i:Nat)(h:i<xs.length):ap m p xs i=an m p (xs.getD (xs.length-1-i) 0):=by
 have _:=F;unfold ap;rw [qu,if_pos h]
theorem fM (xs:List Nat):aP (ap m p xs) xs.length:=by
 intro i hi;unfold ap;rw [qu,if_neg (by omega),fq]
theorem lK (c:Nat)(xs:List Nat):ap m p (c :: xs)=mon xs.length (an m p c)+ap m p xs:=by
 apply ext';intro i;rw [ik,gQ];by_cases h:i=xs.length
 ·subst h;rw [if_pos rfl,fM xs _ (My _),El.add_zero,lJ _ _ (by simp)];congr 1;rw [MB,Nat.add_sub_cancel,MC];rfl
 rw [if_neg h,El.zero_add];unfold ap;congr 1;rw [qu,qu];by_cases h2:i<xs.length
 ·rw [if_pos h2,if_pos (by simp;omega),MB,show xs.length+1-1-i=(xs.length-1-i)+1 by omega,MS]
 rw [if_neg h2,if_neg (by simp;omega)]
theorem oP (d:Nat):(mon d 0:Po m p)=0:=by
 apply ext';intro i;rw [gQ]
 split<;>rfl
theorem fN (n:Nat):ap m p (Mz n 0)=0:=by
 induction n with
 | zero=>exact ext' fun i=>fq
 | succ n ih=>rw [MO,lK,ih,fq,oP,add_zero]
theorem nh (xs:List Nat):ap m p (bJ xs)=ap m p xs:=by
 induction xs with
 | nil=>show ap m p (Mz 1 0)=ap m p (Mz 0 0);rw [fN,fN]
 | cons x xs ih=>
  by_cases hx:x=0;rotate_left
  ·rw [show bJ (x :: xs)=x :: xs from uD (.inr hx) (by simp)]
  subst hx;rw [lK,fq,oP,zero_add];cases xs with
  | nil=>exact ih
  | cons y ys=>rw [xq _ (by simp)];exact ih
theorem xE (xs:List Nat)(c:Nat)(hx:ab m xs)(hc:c<2 ^ m):ap m p (xs.map fun x=>gm m p x c)=ap m p xs*gu (an m p c):=by
 induction xs with
 | nil=>
  rw [MH,show ap m p []=0 from fN 0,zero_mul]
 | cons x xs ih=>
  have h1:x<2 ^ m:=hx x (by simp);rw [MD,lK,lK,add_mul,ih (fun y hy=>hx y (by simp [hy])),MI,ij h1 hc];congr 1;apply ext';intro i;rw [nj,gQ,gQ]
  split
  ·rfl
  rw [El.zero_mul]
theorem te (d e:Nat)(a b:El m p):mon d a*mon e b=mon (d+e) (a*b):=by
 apply ext';intro i;rw [mF,gQ,gQ];by_cases h:i=d+e
 ·rw [if_pos h,if_neg (by omega),if_pos (by omega)]
 rw [if_neg h]
 split
 ·rfl
 rw [if_neg (by omega),El.zero_mul]
theorem Dq (xs:List Nat)(d:Nat):ap m p (xs++Mz d 0)=ap m p xs*mon d 1:=by
 induction xs with
 | nil=>rw [List.nil_append,fN,show ap m p []=0 from fN 0,zero_mul]
 | cons x xs ih=>rw [List.cons_append,lK,ih,lK,add_mul,te,El.mul_one,List.length_append,ME]
theorem tf (d c:Nat):ap m p (dR d c)=mon d (an m p c):=by
 unfold dR
 split
 ·rename_i h
  rw [h,fq,oP];exact fN 1
 rw [lK,fN,add_zero,ME]
theorem Dr (d c:Nat)(xs:List Nat)(hx:ab m xs)(hc:c<2 ^ m):ap m p (fK m p d c xs)=ap m p xs*mon d (an m p c):=by
 unfold fK
 split
 ·rename_i h
  rw [h,fq,oP,mul_zero];exact fN 1
 rw [nh,Dq,xE xs c hx hc,mul_assoc,gu,te,El.mul_one,Nat.zero_add]
theorem xF (c:Nat)(xs:List Nat)(hx:ab m xs)(hc:c<2 ^ m):ap m p (iB m p c xs)=ap m p xs*gu (an m p c):=by
 unfold iB
 split
 ·rename_i h
  rw [h,fq,gu,oP,mul_zero];exact fN 1
 split
 rotate_left
 ·rw [nh,xE xs c hx hc]
 rename_i h
 rw [h,jS];exact (mul_one _).symm
theorem Ds (S L:List Nat)(h:S.length<=L.length)(j:Nat):(ek S L).getD j 0=(if L.length-S.length<=j then S.getD (j-(L.length-S.length)) 0 else 0) ^^^ L.getD j 0:=by
 by_cases h2:j<L.length
 ·by_cases h1:L.length-S.length<=j
  ·rw [if_pos h1,xf S L h j h1 h2]
  rw [if_neg h1,MJ];unfold ek;rw [Mx,Mx,List.getElem?_append_left (by simp;omega),List.getElem?_take_of_lt (by omega)]
 have e1:(ek S L).getD j 0=0:=by rw [Mx,MR (by rw [iC S L h];omega)];rfl
 have e2:L.getD j 0=0:=by rw [Mx,MR (by omega)];rfl
 have e3:S.getD (j-(L.length-S.length)) 0=0:=by rw [Mx,MR (by omega)];rfl
 rw [e1,e2,e3]
 split<;>rfl
theorem xG (S L:List Nat)(h:S.length<=L.length)(hS:ab m S)(hL:ab m L):ap m p (ek S L)=ap m p S+ap m p L:=by
 apply ext';intro i;rw [ik];by_cases hi:i<L.length;rotate_left
 ·rw [fM _ i (by rw [iC S L h];omega),fM S i (by omega),fM L i (by omega),El.add_zero]
 rw [lJ _ i (by rw [iC S L h];exact hi),iC S L h,lJ L i hi,Ds S L h]
 by_cases hs:i<S.length;rotate_left
 ·rw [if_neg (by omega),MJ,fM S i (by omega),El.zero_add]
 rw [lJ S i hs,if_pos (by omega),show L.length-1-i-(L.length-S.length)=S.length-1-i by omega];exact oO (aF hS _) (aF hL _)
theorem qx {xs:List Nat}(h:gn xs)(h0:xs.getD 0 0=0):xs=[0]:=by
 obtain⟨h1,h2⟩:=h;have hl:xs.length=1:=h2.resolve_right (fun h=>h h0);cases xs with
 | nil=>exact absurd rfl h1
 | cons x xs=>
  have:xs=[]:=MV (by simpa using hl);subst this;rw [show x=0 from h0]
theorem tg (xs ys:List Nat)(hx:ab m xs)(hy:ab m ys)(nx:gn xs)(ny:gn ys):ap m p (dL xs ys)=ap m p xs+ap m p ys:=by
 unfold dL
 split
 ·rename_i h
  rw [qx nx h,show ap m p [0]=0 from fN 1,zero_add]
 split
 ·rename_i h
  rw [qx ny h,show ap m p [0]=0 from fN 1,add_zero]
 split
 ·rw [nh,xG _ _ (by omega) hy hx,add_comm]
 rw [nh,xG _ _ (by omega) hx hy]
theorem xH (xs:List Nat)(k v:Nat)(hk:k<xs.length)(hx:ab m xs)(hv:v<2 ^ m):ap m p (xs.set k (xs.getD k 0 ^^^ v))=ap m p xs+mon (xs.length-1-k) (an m p v):=by
 apply ext';intro i;rw [ik,gQ];by_cases hi:i<xs.length;rotate_left
 ·rw [fM _ i (by simp;omega),fM xs i (by omega),if_neg (by omega),El.add_zero]
 rw [lJ _ i (by simpa using hi),lJ xs i hi,List.length_set];by_cases he:i=xs.length-1-k;rotate_left
 ·rw [if_neg he,El.add_zero];congr 1;rw [Mx,List.getElem?_set_ne (by omega),<- Mx]
 rw [if_pos he,show xs.length-1-i=k by omega];rw [<- oO (aF hx _) hv];congr 1;rw [Mx,List.getElem?_set_self hk];rfl
theorem Dt (ys:List Nat)(j:Nat)(h:j<ys.length):(bU ys j).getD j 0=0:=by
 unfold bU;have hl:(ys.take j).length=j:=by simp;omega
 rw [Mx,MW (by omega),hl,MC,show ys.length-j=(ys.length-(j+1))+1 by omega,MO];rfl
theorem Du (ys:List Nat)(j:Nat)(h:ab m ys):ab m (bU ys j):=ab.app (fun x hx=>h x (List.mem_of_mem_take hx)) (jq m _)
theorem xI (ys:List Nat)(j:Nat)(h:j<ys.length)(hy:ab m ys):ap m p (bU ys (j+1))=ap m p (bU ys j)+mon (ys.length-1-j) (an m p (ys.getD j 0)):=by
 have hl:=qN ys j (by omega);have:=xH (p:=p) (bU ys j) j (ys.getD j 0) (by rw [hl];exact h) (Du ys j hy) (aF hy j)
 rw [Dt ys j h,MJ,qO ys j h,hl] at this;exact this
theorem xJ (ys:List Nat):ap m p (bU ys 0)=0:=by
 unfold bU;rw [List.take_zero,List.nil_append,fN]
theorem Dv (z ys:List Nat)(a i n1:Nat)(hz:ab m z)(hy:ab m ys)(ha:a<2 ^ m)(hi:i<n1)(hl:z.length=n1+ys.length-1):∀ j,j<=ys.length->ap m p (gq m p z ys a i j)=ap m p z+mon (n1-1-i) (an m p a)*ap m p (bU ys j):=by
 intro j
 induction j with
 | zero=>intro _;rw [gq,xJ,mul_zero,add_zero]
 | succ j ih=>
  intro hj;have hlen:=ta m p z ys a i j;rw [gq,xH _ _ _ (by rw [hlen,hl];omega) (tb F.fld a i j hz ha) (cD F.fld _ _ ha),ih (by omega),xI ys j hj hy,mul_add,te,ij ha (aF hy j),hlen,hl,add_assoc]
  congr 3;omega
theorem Dw (xs ys:List Nat)(hx:ab m xs)(hy:ab m ys)(h0:ys≠[]):∀ i,i<=xs.length->ap m p (dS m p xs ys i)=ap m p (bU xs i)*ap m p ys:=by
 intro i
 induction i with
 | zero=>intro _;rw [dS,fN,xJ,zero_mul]
 | succ i ih=>
  intro hi;have hp:0<ys.length:=List.length_pos_iff.2 h0;rw [dS,Dv _ ys _ i xs.length (tc F.fld i hx) hy (aF hx i) hi (qv m p xs ys i) _ (My _),ih (by omega),xI xs i hi hx,add_mul,oT]
theorem Dx (xs ys:List Nat)(hx:ab m xs)(hy:ab m ys)(nx:gn xs)(ny:gn ys):ap m p (eN m p xs ys)=ap m p xs*ap m p ys:=by
 unfold eN
 split
 ·rename_i h
  rw [qx nx h,show ap m p [0]=0 from fN 1,zero_mul]
 split
 rotate_left
 ·rw [nh,Dw xs ys hx hy ny.1 _ (My _),oT]
 rename_i h
 rw [qx ny h,show ap m p [0]=0 from fN 1,mul_zero]
theorem qy (xs:List Nat)(h:xs≠[]):ap m p xs (xs.length-1)=an m p (xs.getD 0 0):=by
 have hp:0<xs.length:=List.length_pos_iff.2 h;rw [lJ _ _ (by omega),MC]
theorem th {xs:List Nat}(hx:ab m xs)(h:gn xs){n:Nat}(hn:1<=n)(hd:aP (ap m p xs) n):xs.length<=n:=by
 rcases h.2 with h1 | h1
 ·omega
 apply Classical.byContradiction;intro hc;have:=hd (xs.length-1) (by omega);rw [qy xs h.1] at this;exact ng (aF hx 0) h1 this
theorem xK {r:Nat}(hr:r<2 ^ m)(n:Nat):an m p (dk m p r n)=El.pow (an m p r) n:=by
 induction n with
 | zero=>exact jS
 | succ n ih=>rw [dk,El.pow,ij (je F.fld r n hr) hr,ih]
theorem xL (r:Nat)(hr:r<2 ^ m)(xs:List Nat)(hx:ab m xs):an m p (ao m p r xs)=ev xs.length (ap m p xs) (an m p r):=by
 induction xs with
 | nil=>exact fq
 | cons x xs ih=>
  have h1:x<2 ^ m:=hx x (by simp);have h2:ab m xs:=fun y hy=>hx y (by simp [hy])
  have hg:=je F.fld r xs.length hr;rw [ly F.fld r hr x xs h1 h2,oO (cD F.fld _ _ h1) (jf F.fld r xs h2),ij h1 hg,ih h2,lK,tq,xK hr];congr 1
  ·exact (oS _ _ _).symm
  exact (mG (fM xs) (by simp) _).symm
theorem Dy {xs:List Nat}{n:Nat}(r:Nat)(hr:r<2 ^ m)(hx:ab m xs)(hd:aP (ap m p xs) n):an m p (ao m p r xs)=ev n (ap m p xs) (an m p r):=(xL r hr xs hx).trans (qI (fM xs) hd _)
end Po
theorem xM (xs ys:List Nat)(nx:xs≠[])(ny:ys≠[]):(dL xs ys).length<=max xs.length ys.length:=by
 unfold dL;have h1:0<xs.length:=List.length_pos_iff.2 nx;have h2:0<ys.length:=List.length_pos_iff.2 ny
 split
 ·omega
 split
 ·omega
 split
 ·have hl:=iC ys xs (by omega);have:=mE (ek ys xs) (by intro h;rw [h] at hl;simp at hl;omega)
  omega
 have hl:=iC xs ys (by omega);have:=mE (ek xs ys) (by intro h;rw [h] at hl;simp at hl;omega)
 omega
theorem xN (d c:Nat):(dR d c).length<=d+1:=by
 unfold dR
 split
 ·simp
 simp
theorem Dz (m p d c:Nat)(xs:List Nat)(h:xs≠[]):(fK m p d c xs).length<=xs.length+d:=by
 have h1:0<xs.length:=List.length_pos_iff.2 h;unfold fK
 split
 ·show 1<=_;omega
 have hl:(xs.map (fun x=>gm m p x c)++Mz d 0).length=xs.length+d:=by simp
 have:=mE (xs.map (fun x=>gm m p x c)++Mz d 0) (by intro h;rw [h] at hl;simp at hl;omega)
 omega
theorem xO (m p:Nat)(xs ys:List Nat)(nx:xs≠[])(ny:ys≠[]):(eN m p xs ys).length<=xs.length+ys.length-1:=by
 have h1:0<xs.length:=List.length_pos_iff.2 nx;have h2:0<ys.length:=List.length_pos_iff.2 ny;unfold eN
 split
 ·show 1<=_;omega
 split
 ·show 1<=_;omega
 have hl:=qv m p xs ys xs.length;have:=mE (dS m p xs ys xs.length) (by intro h;rw [h] at hl;simp at hl;omega)
 omega
namespace Po
variable {m p:Nat} [F:FF m p]
structure bz (m:Nat)(xs:List Nat):Prop where
 lt:ab m xs
 norm:gn xs
theorem bz.pos {xs:List Nat}(h:bz m xs):0<xs.length:=List.length_pos_iff.2 h.norm.1
theorem bz.add {xs ys:List Nat}(h:bz m xs)(k:bz m ys):bz m (dL xs ys):=⟨xx h.lt k.lt,xv xs ys h.norm k.norm⟩
theorem bz.zero:bz m [0]:=⟨jq m 1,by simp,.inl rfl⟩
theorem bz.lead {xs:List Nat}(h:bz m xs)(hl:2<=xs.length):xs.getD 0 0≠0:=h.norm.2.resolve_left (by omega)
structure lL (m p:Nat)[F:FF m p](A D q r:List Nat):Prop where
 rq:bz m q
 rr:bz m r
 eq:ap m p A=ap m p q*ap m p D+ap m p r
 len:r.length<=A.length
 qlen:q.length+D.length<=A.length+1
theorem lL.start {A D:List Nat}(h:bz m A)(hl:D.length<=A.length):lL m p A D [0] A :=
 ⟨bz.zero,h,by rw [show ap m p [0]=0 from fN 1,zero_mul,zero_add],My _,by show 1+_<=_;omega⟩
theorem lL.step {A D q r:List Nat}(h:lL m p A D q r)(hD:bz m D)(hD2:2<=D.length)(hl:D.length<=r.length)(inv:Nat)(hi:inv<2 ^ m)(hinv:gm m p (D.getD 0 0) inv=1) :
  lL m p A D (dL q (dR (r.length-D.length) (gm m p (r.getD 0 0) inv))) (dL r (fK m p (r.length-D.length) (gm m p (r.getD 0 0) inv) D))/\(dL r (fK m p (r.length-D.length) (gm m p (r.getD 0 0) inv) D)).length<r.length:=by
 obtain⟨dd,hdd⟩:∃ dd,r.length-D.length=dd:=⟨_,rfl⟩;obtain⟨s,hs⟩:∃ s,gm m p (r.getD 0 0) inv=s:=⟨_,rfl⟩;have hs2:s<2 ^ m:=by rw [<- hs];exact cD F.fld _ _ (aF h.rr.lt 0)
 rw [hdd,hs];have r1:bz m (dR dd s):=⟨s9 dd s hs2,s8 dd s⟩;have r2:bz m (fK m p dd s D):=⟨xz F.fld dd s hD.lt,xt m p dd s D⟩;have e2:ap m p (dL r (fK m p dd s D))=ap m p r+ap m p D*mon dd (an m p s):=by
  rw [tg _ _ h.rr.lt r2.lt h.rr.norm r2.norm,Dr dd s D hD.lt hs2]
 have l2:(dL r (fK m p dd s D)).length<=r.length-1:=by
  refine th (p:=p) (xx h.rr.lt r2.lt) (xv _ _ h.rr.norm r2.norm) (by omega) ?_;rw [e2];intro i hir;rw [ik,mF];by_cases hi2:i=r.length-1;rotate_left
  ·rw [fM r i (by omega),El.zero_add]
   split
   ·rfl
   rw [fM D (i-dd) (by omega),El.zero_mul]
  subst hi2;rw [if_neg (by omega),qy r h.rr.norm.1,show r.length-1-dd=D.length-1 by omega,qy D hD.norm.1,<- hs,ij (aF h.rr.lt 0) hi];have e3:an m p (D.getD 0 0)*an m p inv=1:=by rw [<- ij (aF hD.lt 0) hi,hinv,jS]
  have e4:an m p (D.getD 0 0)*(an m p (r.getD 0 0)*an m p inv)=an m p (r.getD 0 0):=by
   rw [show an m p (D.getD 0 0)*(an m p (r.getD 0 0)*an m p inv)=an m p (r.getD 0 0)*(an m p (D.getD 0 0)*an m p inv) by ac_rfl,e3,El.mul_one]
  rw [e4,El.add_self]
 refine⟨⟨h.rq.add r1,h.rr.add r2,?_,by have:=h.len;omega,?_⟩,by omega⟩
 rotate_left
 ·have h1:=xM q (dR dd s) h.rq.norm.1 r1.norm.1;have h2:=xN dd s;have h3:=h.qlen;have h4:=h.len;omega
 rw [tg _ _ h.rq.lt r1.lt h.rq.norm r1.norm,tf,e2,add_mul,h.eq];have:∀ Q R M DD:Po m p,Q*DD+R=Q*DD+M*DD+(R+DD*M):=by
  intro Q R M DD;have:Q*DD+M*DD+(R+DD*M)=Q*DD+R+(M*DD+M*DD):=by rw [mul_comm DD M];ac_rfl
  rw [this,add_self,add_zero]
 exact this _ _ _ _
structure kK (m p:Nat)[F:FF m p](N:Nat)(S:Po m p)(rL r tL t:List Nat):Prop where
 r1:bz m rL
 r2:bz m r
 r3:bz m tL
 r4:bz m t
 ex:∃ u uL B,ap m p r=ap m p t*S+u*mon N 1/\ap m p rL=ap m p tL*S+uL*mon N 1/\ap m p t*uL+ap m p tL*u=1/\aP u B/\aP uL B
 l1:r.length<rL.length
 l2:t.length+rL.length<=N+2
 l3:tL.length+rL.length<=N+2
 l4:N+2<=2*rL.length
theorem kK.start {N:Nat}{S:Po m p}{dg:List Nat}(hN:1<=N)(h:bz m dg)(hS:ap m p dg=S)(hl:dg.length<=N)(h1:bz m (dR N 1))(hl1:(dR N 1).length=N+1):kK m p N S (dR N 1) dg [0] [1]:=by
 have e1:ap m p [1]=1:=by
  rw [show ([1]:List Nat)=dR 0 1 from rfl,tf,jS];rfl
 refine⟨h1,h,bz.zero,⟨?_,by simp,.inl rfl⟩,⟨0,1,1,?_,?_,?_,?_,?_⟩,by omega,by show 1+_<=_;omega,by show 1+_<=_;omega,by omega⟩
 ·intro x hx;rw [List.mem_singleton.1 hx];exact dm (p:=p) F.fld 0
 ·rw [e1,one_mul,zero_mul,add_zero,hS]
 ·rw [show ap m p [0]=0 from fN 1,zero_mul,zero_add,one_mul,tf,jS]
 ·rw [e1,one_mul,mul_zero,add_zero]
 ·exact fun i _=>rfl
 exact aP.mon 0 1
theorem kK.step {N:Nat}{S:Po m p}{rL r tL t q r':List Nat}(h:kK m p N S rL r tL t)(hgo:N+2<=2*r.length)(hd:lL m p rL r q r')(hlt:r'.length<r.length):kK m p N S r r' t (dL (eN m p q t) tL):=by
 obtain⟨u,uL,B,a1,a2,a3,a4,a5⟩:=h.ex;have rm:bz m (eN m p q t):=⟨xD F.fld hd.rq.lt,xC m p q t⟩;have et:ap m p (dL (eN m p q t) tL)=ap m p q*ap m p t+ap m p tL:=by
  rw [tg _ _ rm.lt h.r3.lt rm.norm h.r3.norm,Dx _ _ hd.rq.lt h.r4.lt hd.rq.norm h.r4.norm]
 have er:ap m p r'=ap m p q*ap m p r+ap m p rL:=by
  rw [hd.eq];have:∀ A B:Po m p,B=A+(A+B):=by
   intro A B;rw [<- add_assoc,add_self,zero_add]
  exact this _ _
 refine⟨h.r2,hd.rr,h.r4,rm.add h.r3,⟨ap m p q*u+uL,u,q.length+B-1+B,?_,a1,?_,?_,a4.mono (by omega)⟩,hlt,?_,?_,hgo⟩
 ·rw [er,et,a1,a2,mul_add,add_mul,add_mul]
  ac_rfl
 ·rw [et];exact Eh _ _ _ _ _ a3
 ·exact aP.add (((fM q).mul a4).mono (by omega)) (a5.mono (by omega))
 rotate_left
 ·have h4:=h.l2;have h6:=h.l1;omega
 have h1:=xM (eN m p q t) tL rm.norm.1 h.r3.norm.1;have h2:=xO m p q t hd.rq.norm.1 h.r4.norm.1;have h3:=hd.qlen;have h4:=h.l2;have h5:=h.l3;have h6:=h.l1;have h7:=h.r4.pos;have h8:=hd.rq.pos;omega
theorem kK.finds {N b:Nat}{es:List (El m p×El m p)}{rL r tL t:List Nat}(h:kK m p N (dg b N es) rL r tL t)(hN:1<=N)(hend:2*(r.length-1)<N)(hes:2*es.length<=N)(hn:(es.map Prod.fst).Nodup)(h0:∀ x∈es,x.1≠0/\x.2≠0)(inv:Nat)(hi:inv<2 ^ m)(hinv:gm m p (t.getD (t.length-1) 0) inv=1\/t.getD (t.length-1) 0=0) :
  t.getD (t.length-1) 0≠0/\ap m p (iB m p inv t)=bh es/\ap m p (iB m p inv r)=om b es:=by
 obtain⟨u,uL,B,a1,a2,a3,a4,a5⟩:=h.ex;have hl2:=h.l2;have hl4:=h.l4;have p1:=h.r2.pos;have p2:=h.r4.pos;have h3:=h.l3;have p3:=h.r3.pos;have e0:ap m p t 0=an m p (t.getD (t.length-1) 0):=by rw [lJ t 0 p2,Nat.sub_zero]
 obtain⟨k0,c,k1,k2,k3⟩:=Ej N es b (r.length-1) (t.length-1) (B+tL.length) (ap m p t) (ap m p r) u (ap m p tL) uL hN hes hn h0 a1 a3 ((fM t).mono (by omega)) (by omega) ((fM r).mono (by omega)) hend (a4.mono (by omega)) ((fM tL).mono (by omega)) (a5.mono (by omega));have hne:t.getD (t.length-1) 0≠0:=by
  intro h;rw [e0,h,fq] at k0;exact k0 rfl
 have hc:an m p inv=c:=by
  refine El.mul_left_cancel k0 ?_;rw [k1,e0,<- ij (aF h.r4.lt _) hi,hinv.resolve_right hne,jS]
 refine⟨hne,?_,?_⟩
 ·rw [xF inv t h.r4.lt hi,hc];apply ext';intro i;rw [nj,k2]
 rw [xF inv r h.r2.lt hi,hc];apply ext';intro i;rw [nj,k3]
end Po
end Go.Proofs.YtgccjgpdjkhpdaaGreat.B
namespace Go.Proofs.YtgccjgpdjkhpdaaGreat.B
open Go.RowKit Go.Proofs.YtgccjgpdjkhpdaaGreatW.PrintWords Go.Proofs.YtgccjgpdjkhpdaaGreatW.PrintLast Go.Proofs.YtgccjgpdjkhpdaaGreatW.PrintMore
set_option linter.unusedVariables false
set_option linter.unusedSimpArgs false
namespace Po
variable {m p:Nat} [F:FF m p]
def cR (m p:Nat)[FF m p]:List Nat->List (El m p×El m p)
 | []=>[]
 | d :: l=>if d=0 then cR m p l else (an m p (gx m p l.length),an m p d) :: cR m p l
theorem DA (d:Nat)(l:List Nat):cR m p (d :: l)=if d=0 then cR m p l else (an m p (gx m p l.length),an m p d) :: cR m p l:=rfl
theorem xP (k n:Nat):El.pow (an m p (gx m p k)) n=an m p (gx m p (k*n)):=by
 induction n with
 | zero=>exact jS.symm
 | succ n ih=>rw [El.pow,ih,<- ij (dm F.fld _) (dm F.fld _),lz F.fld,Nat.mul_succ]
theorem DB (k:Nat):an m p (gx m p k)≠0:=ng (dm F.fld k) (pG F.fld F.prim k)
theorem xQ (b N i:Nat)(hi:i<N):∀ ds:List Nat,ab m ds->an m p (ao m p (gx m p (i+b)) ds)=dg b N (cR m p ds) i:=by
 intro ds
 induction ds with
 | nil=>intro _;exact fq
 | cons d l ih=>
  intro hd;have h1:d<2 ^ m:=hd d (by simp);have h2:ab m l:=fun y hy=>hd y (by simp [hy])
  have hr:=dm (p:=p) F.fld (i+b);have hg:=je F.fld (gx m p (i+b)) l.length hr;rw [ly F.fld _ hr d l h1 h2,oO (cD F.fld _ _ h1) (jf F.fld _ l h2),ij h1 hg,ih h2,xK hr,xP];rw [DA];by_cases h:d=0
  ·rw [if_pos h,h,fq,El.zero_mul,El.zero_add]
  rw [if_neg h];show _=nk b N _ i+dg b N (cR m p l) i;congr 1;show _=if i<N then an m p d*El.pow (an m p (gx m p l.length)) (b+i) else 0
  rw [if_pos hi,xP,Nat.add_comm b i,Nat.mul_comm]
theorem DC:∀ ds:List Nat,ab m ds->∀ x∈cR m p ds,x.1≠0/\x.2≠0:=by
 intro ds
 induction ds with
 | nil=>intro _ x hx;cases hx
 | cons d l ih=>
  intro hd x hx;have h2:ab m l:=fun y hy=>hd y (by simp [hy])
  unfold cR at hx
  split at hx
  ·exact ih h2 x hx
  rename_i h
  rcases List.mem_cons.1 hx with h' | h'
  ·rw [h'];exact⟨DB _,ng (hd d (by simp)) h⟩
  exact ih h2 x h'
theorem qA:∀ (ds:List Nat) (x:El m p×El m p),x∈cR m p ds↔∃ i,i<ds.length/\ds.getD i 0≠0/\x=(an m p (gx m p (ds.length-1-i)),an m p (ds.getD i 0)):=by
 intro ds
 induction ds with
 | nil=>intro x;constructor
        ·intro h;cases h
        rintro⟨i,hi,_⟩;simp at hi
 | cons d l ih=>
  intro x;unfold cR;constructor;rotate_left
  ·rintro⟨i,h1,h2,h3⟩;cases i with
   | zero=>
    have hd:d≠0:=h2;rw [if_neg hd];refine List.mem_cons.2 (.inl ?_);rw [h3];simp
   | succ i=>
    have hm:x∈cR m p l:=(ih x).2 ⟨i,by simpa using h1,by simpa using h2,by rw [h3,MS,MB,show l.length+1-1-(i+1)=l.length-1-i by omega]⟩
    split
    ·exact hm
    exact MF _ hm
  intro hx
  split at hx
  ·obtain⟨i,h1,h2,h3⟩:=(ih x).1 hx;exact⟨i+1,by simpa using h1,by simpa using h2,by rw [h3,MS,MB,show l.length+1-1-(i+1)=l.length-1-i by omega]⟩
  rename_i h
  rcases List.mem_cons.1 hx with h' | h'
  ·exact⟨0,by simp,h,by rw [h'];simp⟩
  obtain⟨i,h1,h2,h3⟩:=(ih x).1 h';exact⟨i+1,by simpa using h1,by simpa using h2,by rw [h3,MS,MB,show l.length+1-1-(i+1)=l.length-1-i by omega]⟩
theorem DE {i j:Nat}(hi:i<2 ^ m-1)(hj:j<2 ^ m-1)(h:an m p (gx m p i)=an m p (gx m p j)):i=j :=
 sm F.fld F.prim i j hi hj (jT (dm F.fld i) (dm F.fld j) h)
theorem DF:∀ ds:List Nat,ds.length<=2 ^ m-1->((cR m p ds).map Prod.fst).Nodup:=by
 intro ds
 induction ds with
 | nil=>intro _;exact List.nodup_nil
 | cons d l ih=>
  intro hl;rw [MB] at hl;unfold cR
  split
  ·exact ih (by omega)
  rw [MD,MN];refine⟨?_,ih (by omega)⟩;intro hx;obtain⟨x,hx1,hx2⟩:=List.mem_map.1 hx;obtain⟨i,h1,h2,h3⟩:=(qA l x).1 hx1;rw [h3] at hx2;have:=DE (p:=p) (by omega) (by omega) hx2;omega
theorem DG:∀ ds:List Nat,(cR m p ds).length=(ds.filter fun d=>!(d==0)).length:=by
 intro ds
 induction ds with
 | nil=>rfl
 | cons d l ih=>
  unfold cR;by_cases h:d=0
  ·rw [if_pos h,MK,if_neg (by simp [h]),ih]
  rw [if_neg h,MK,if_pos (by simp [h]),MB,MB,ih]
theorem DH:∀ es:List (El m p×El m p),(∀ x∈es,x.1≠0)->bh es es.length≠0:=by
 intro es
 induction es with
 | nil=>intro _;exact El.one_ne
 | cons x es ih=>
  intro h;have:=tp (n:=1) (k:=es.length) (lM x.1) (iY es);rw [bh,MB,Nat.add_comm,this];refine El.mul_ne ?_ (ih fun y hy=>h y (MF _ hy));have e:gS x.1 1=x.1:=by
   rw [gS,ik,gQ,if_pos rfl];show (if (1:Nat)=0 then (1:El m p) else 0)+x.1=x.1;rw [if_neg (by omega),El.zero_add]
  rw [e];exact h x (ML ..)
theorem tj {es:List (El m p×El m p)}{sg:List Nat}(h:bz m sg)(he:ap m p sg=bh es)(h0:∀ x∈es,x.1≠0):sg.length=es.length+1:=by
 have h1:=th (p:=p) h.lt h.norm (n:=es.length+1) (by omega) (by rw [he];exact iY es)
 apply Classical.byContradiction;intro hc;have:=fM (p:=p) (m:=m) sg es.length (by omega);rw [he] at this;exact DH es h0 this
def ck (m p:Nat)(sg:List Nat)(i:Nat):List Nat:=(List.range i).filter fun j=>!(j==0) && (ao m p j sg==0)
theorem qB (sg:List Nat)(i:Nat):ck m p sg (i+1)=if i≠0/\ao m p i sg=0 then ck m p sg i++[i] else ck m p sg i:=by
 have _:=F;unfold ck;rw [List.range_succ,List.filter_append];by_cases h:i≠0/\ao m p i sg=0
 ·rw [if_pos h,MK,if_pos (by simp [h.1,h.2])];rfl
 rw [if_neg h,MK,if_neg (by simpa using h)];exact List.append_nil _
theorem xR (sg:List Nat)(i j:Nat):j∈ck m p sg i↔j<i/\j≠0/\ao m p j sg=0:=by
 have _:=F;unfold ck;rw [List.mem_filter,List.mem_range];simp
theorem xS (sg:List Nat)(i:Nat):(ck m p sg i).Nodup:=have _:=F;List.Pairwise.filter _ List.nodup_range
theorem xT {es:List (El m p×El m p)}{sg:List Nat}(h:bz m sg)(he:ap m p sg=bh es)(h0:∀ x∈es,x.1≠0)(j:Nat)(hj:j<2 ^ m):ao m p j sg=0↔∃ x∈es,x.1*an m p j=1:=by
 have hl:=tj h he h0;have e1:an m p (ao m p j sg)=dv (an m p j) (es.map Prod.fst):=by
  rw [xL j hj sg h.lt,he,hl,tr]
 constructor
 rotate_left
 ·rintro⟨x,hx,e⟩;rw [tt _ _ x.1 (MZ hx) e] at e1;exact jT (jf F.fld j sg h.lt) (MQ m) (e1.trans fq.symm)
 intro h';rw [h',fq] at e1;apply Classical.byContradiction;intro hc;refine qJ (an m p j) (es.map Prod.fst) ?_ e1.symm;intro x hx e;obtain⟨y,hy,rfl⟩:=List.mem_map.1 hx;exact hc ⟨y,hy,e⟩
theorem kM {a:Nat}(h0:a≠0)(ha:a<2 ^ m):an m p a*an m p (br m p a)=1:=by
 rw [<- ij ha (g6 F.fld a),so F.fld F.prim a h0 ha,jS]
theorem qC {a:Nat}(h0:a≠0)(ha:a<2 ^ m):br m p a≠0:=by
 intro h;have:=kM (p:=p) h0 ha;rw [h,fq,El.mul_zero] at this;exact El.one_ne this.symm
theorem xU {a:Nat}{x:El m p}(h0:a≠0)(ha:a<2 ^ m)(h:x*an m p a=1):x=an m p (br m p a):=by
 refine El.mul_left_cancel (ng ha h0) ?_;rw [kM h0 ha,El.mul_comm,h]
structure iX (m p:Nat)[F:FF m p](es:List (El m p×El m p))(locs:List Nat):Prop where
 lt:ab m locs
 len:locs.length=es.length
 nodup:locs.Nodup
 mem:∀ a∈locs,an m p a∈es.map Prod.fst
theorem qD {α β:Type}{f:α->β}:∀ {l:List α},l.Nodup->(∀ x∈l,∀ y∈l,f x=f y->x=y)->(l.map f).Nodup:=by
 intro l
 induction l with
 | nil=>intro _ _;exact List.nodup_nil
 | cons a l ih=>
  intro h hf;rw [MN] at h;rw [MD,MN];refine⟨?_,ih h.2 fun x hx y hy=>hf x (MF _ hx) y (MF _ hy)⟩;intro hx;obtain⟨y,hy,e⟩:=List.mem_map.1 hx;have:=hf y (MF _ hy) a (ML ..) e;exact h.1 (this ▸ hy)
theorem tk {α:Type}[DecidableEq α]:∀ (l k:List α),l.Nodup->(∀ x∈l,x∈k)->l.length<=k.length:=by
 intro l
 induction l with
 | nil=>intro k _ _;simp
 | cons a l ih=>
  intro k hn hs;rw [MN] at hn;have h1:=ih (k.erase a) hn.2 (fun x hx=>(List.mem_erase_of_ne (fun e=>hn.1 (by rw [<- e];exact hx))).2 (hs x (MF _ hx)))
  have hm:=hs a (ML ..);have h2:=List.length_erase_of_mem hm;have h3:=List.length_pos_of_mem hm;rw [MB];omega
theorem DI {es:List (El m p×El m p)}{sg:List Nat}(h:bz m sg)(he:ap m p sg=bh es)(h0:∀ x∈es,x.1≠0)(hn:(es.map Prod.fst).Nodup)(i:Nat)(hi:i<=2 ^ m) :
  (ck m p sg i).length<=es.length/\(i=2 ^ m->(ck m p sg i).length=es.length)/\((ck m p sg i).length=es.length->iX m p es ((ck m p sg i).map (br m p))):=by
 have hmem:∀ j∈ck m p sg i,j<2 ^ m/\j≠0/\an m p (br m p j)∈es.map Prod.fst:=by
  intro j hj;obtain⟨h1,h2,h3⟩:=(xR sg i j).1 hj;have hj2:j<2 ^ m:=by omega
  obtain⟨x,hx,e⟩:=(xT h he h0 j hj2).1 h3;exact⟨hj2,h2,by rw [<- xU h2 hj2 e];exact MZ hx⟩
 have hinj:∀ x∈ck m p sg i,∀ y∈ck m p sg i,an m p (br m p x)=an m p (br m p y)->x=y:=by
  intro x hx y hy e;obtain⟨x1,x2,_⟩:=hmem x hx;obtain⟨y1,y2,_⟩:=hmem y hy;have a1:=kM (p:=p) x2 x1;have a2:=kM (p:=p) y2 y1;rw [<- e] at a2;refine jT (p:=p) x1 y1 ?_;refine El.mul_left_cancel (ng (g6 F.fld x) (qC x2 x1)) ?_;rw [El.mul_comm,a1,El.mul_comm,a2]
 have hnd:((ck m p sg i).map fun j=>an m p (br m p j)).Nodup:=qD (xS sg i) hinj;have hle:(ck m p sg i).length<=es.length:=by
  have:=tk _ (es.map Prod.fst) hnd (by
   intro x hx;obtain⟨j,hj,rfl⟩:=List.mem_map.1 hx;exact (hmem j hj).2.2)
  simpa using this
 refine⟨hle,?_,?_⟩;rotate_left
 ·intro hl;refine⟨?_,by rw [MI];exact hl,qD (xS sg i) (fun x hx y hy e=>hinj x hx y hy (by rw [e])),?_⟩
  ·intro x hx;obtain⟨j,_,rfl⟩:=List.mem_map.1 hx;exact g6 F.fld j
  intro x hx;obtain⟨j,hj,rfl⟩:=List.mem_map.1 hx;exact (hmem j hj).2.2
 rintro rfl;have h2:=tk (es.map Prod.fst) ((ck m p sg (2 ^ m)).map fun j=>an m p (br m p j)) hn (by
  intro x hx;obtain⟨y,hy,rfl⟩:=List.mem_map.1 hx;have hy0:=h0 y hy;have hv:y.1.v<2 ^ m:=y.1.lt;have hyv:an m p y.1.v=y.1:=El.ext' (jr hv);have hv0:y.1.v≠0:=El.ne_zero hy0;refine List.mem_map.2 ⟨br m p y.1.v,(xR _ _ _).2 ⟨g6 F.fld _,qC hv0 hv,?_⟩,?_⟩
  ·refine (xT h he h0 _ (g6 F.fld _)).2 ⟨y,hy,?_⟩;have:=kM (p:=p) hv0 hv
   rwa [hyv] at this
  have:=xU (p:=p) (qC hv0 hv) (g6 F.fld _) (x:=y.1) (by
   have:=kM (p:=p) hv0 hv
   rwa [hyv] at this)
  exact this.symm)
 rw [MI,MI] at h2;omega
theorem DJ {es:List (El m p×El m p)}{sg:List Nat}(h:bz m sg)(he:ap m p sg=bh es)(h0:∀ x∈es,x.1≠0)(h1:es.length=1):iX m p es [sg.getD 0 0]:=by
 have hl:=tj h he h0;cases es with
 | nil=>simp at h1
 | cons x es=>
  have:es=[]:=MV (by simpa using h1);subst this;have e1:an m p (sg.getD 0 0)=x.1:=by
   have e2:=qy (p:=p) (m:=m) sg h.norm.1;rw [hl,he] at e2;rw [<- e2];show bh [x] 1=x.1;rw [bh,show bh ([]:List (El m p×El m p))=1 from rfl,mul_one,gS,ik,gQ,if_pos rfl];show (if (1:Nat)=0 then (1:El m p) else 0)+x.1=x.1;rw [if_neg (by omega),El.zero_add]
  refine⟨?_,rfl,by simp,?_⟩;rotate_left
  ·intro y hy;rw [List.mem_singleton.1 hy,e1];simp
  intro y hy;rw [List.mem_singleton.1 hy];exact aF h.lt 0
end Po
end Go.Proofs.YtgccjgpdjkhpdaaGreat.B
namespace Go.Proofs.YtgccjgpdjkhpdaaGreat.B
open Go.RowKit Go.Proofs.YtgccjgpdjkhpdaaGreatW.PrintWords Go.Proofs.YtgccjgpdjkhpdaaGreatW.PrintLast Go.Proofs.YtgccjgpdjkhpdaaGreatW.PrintMore
set_option linter.unusedVariables false
set_option linter.unusedSimpArgs false
namespace Po
variable {m p:Nat}
def dT (m p:Nat)(locs:List Nat)(i y:Nat):Nat->Nat
 | 0=>1
 | j+1=>if i=j then dT m p locs i y j else gm m p (dT m p locs i y j) (gm m p (locs.getD j 0) y ^^^ 1)
def iD (m p b:Nat)(locs om:List Nat)(i:Nat):Nat :=
 if b=0 then gm m p (ao m p (br m p (locs.getD i 0)) om) (br m p (dT m p locs i (br m p (locs.getD i 0)) locs.length))
 else gm m p (gm m p (ao m p (br m p (locs.getD i 0)) om) (br m p (dT m p locs i (br m p (locs.getD i 0)) locs.length))) (br m p (locs.getD i 0))
def dM (m p:Nat)(xs locs mags:List Nat):Nat->List Nat
 | 0=>xs
 | i+1=>(dM m p xs locs mags i).set (xs.length-1-ef m p (locs.getD i 0)) ((dM m p xs locs mags i).getD (xs.length-1-ef m p (locs.getD i 0)) 0 ^^^ mags.getD i 0)
theorem qE (xs locs mags:List Nat)(i:Nat):(dM m p xs locs mags i).length=xs.length:=by
 induction i with
 | zero=>rfl
 | succ i ih=>rw [dM,List.length_set,ih]
theorem ni (F:aG m p):1<2 ^ m:=dm F 0
variable [F:FF m p]
theorem qF (locs:List Nat)(i y:Nat)(h:ab m locs)(j:Nat):dT m p locs i y j<2 ^ m:=by
 induction j with
 | zero=>exact ni F.fld
 | succ j ih=>
  rw [dT]
  split
  ·exact ih
  exact cD F.fld _ _ ih
theorem DK (y:El m p):∀ (l:List (El m p)) (x:El m p),dv y (l++[x])=dv y l*(1+x*y):=by
 intro l
 induction l with
 | nil=>intro x;show (1+x*y)*1=1*(1+x*y);ac_rfl
 | cons a l ih=>intro x;rw [List.cons_append,dv,dv,ih];ac_rfl
theorem DL (y:El m p):∀ (l:List (El m p)) (x:El m p),x∈l->dv y l=(1+x*y)*dv y (l.erase x):=by
 intro l
 induction l with
 | nil=>intro x h;cases h
 | cons a l ih=>
  intro x h;by_cases e:a=x
  ·subst e;rw [List.erase_cons_head,dv]
  rw [List.erase_cons_tail (by simpa using e),dv,dv,ih x ((List.mem_cons.1 h).resolve_left (fun h'=>e h'.symm))]
  ac_rfl
theorem DM (y:El m p):∀ (l k:List (El m p)),l.Nodup->k.Nodup->(∀ x,x∈l↔x∈k)->dv y l=dv y k:=by
 intro l
 induction l with
 | nil=>
  intro k _ _ h;cases k with
  | nil=>rfl
  | cons a k=>exact absurd ((h a).2 (ML ..)) (by simp)
 | cons a l ih=>
  intro k hl hk h;rw [MN] at hl;have ha:a∈k:=(h a).1 (ML ..);rw [dv,DL y k a ha,ih (k.erase a) hl.2 (hk.erase a) ?_];intro x;rw [hk.mem_erase_iff];constructor;rotate_left
  ·rintro⟨h1,h2⟩;exact (List.mem_cons.1 ((h x).2 h2)).resolve_left h1
  intro hx;exact⟨fun e=>hl.1 (e ▸ hx),(h x).1 (MF _ hx)⟩
theorem DN {α:Type}[DecidableEq α](l k:List α)(hl:l.Nodup)(hs:∀ x∈l,x∈k)(hle:k.length<=l.length)(x:α)(hx:x∈k):x∈l:=by
 apply Classical.byContradiction;intro hc;have:=tk (x :: l) k (List.nodup_cons.2 ⟨hc,hl⟩) (by
  intro y hy;rcases List.mem_cons.1 hy with h | h
  ·rw [h];exact hx
  exact hs y h)
 rw [MB] at this;omega
theorem iX.nodupE {es:List (El m p×El m p)}{locs:List Nat}(h:iX m p es locs):(locs.map (an m p)).Nodup :=
 qD h.nodup fun x hx y hy e=>jT (h.lt x hx) (h.lt y hy) e
theorem iX.full {es:List (El m p×El m p)}{locs:List Nat}(h:iX m p es locs){x:El m p×El m p}(hx:x∈es):∃ i,i<locs.length/\an m p (locs.getD i 0)=x.1:=by
 have:=DN (locs.map (an m p)) (es.map Prod.fst) h.nodupE (by
  intro y hy;obtain⟨a,ha,rfl⟩:=List.mem_map.1 hy;exact h.mem a ha) (by rw [MI,MI,h.len];exact My _) x.1 (MZ hx)
 obtain⟨a,ha,e⟩:=List.mem_map.1 this;obtain⟨i,hi,rfl⟩:=List.mem_iff_getElem.1 ha;exact⟨i,hi,by rw [Mx,MA hi];exact e⟩
theorem tn {l:List Nat}{i:Nat}(h:i<l.length):l.getD i 0∈l:=by
 rw [Mx,MA h];exact MM _
theorem tQz {l:List Nat}(h:l.Nodup){i j:Nat}(hi:i<l.length)(hj:j<l.length)(e:l.getD i 0=l.getD j 0):i=j:=by
 rw [Mx,Mx,MA hi,MA hj] at e;exact (List.getElem_inj h).1 e
theorem DP (locs:List Nat)(i y:Nat)(h:ab m locs)(hy:y<2 ^ m):∀ j,j<=locs.length->an m p (dT m p locs i y j)=dv (an m p y) (((List.range j).filter fun k=>!(i==k)).map fun k=>an m p (locs.getD k 0)):=by
 intro j
 induction j with
 | zero=>intro _;exact jS
 | succ j ih=>
  intro hj;rw [dT,List.range_succ,List.filter_append,List.map_append];by_cases e:i=j
  ·rw [if_pos e,ih (by omega),MK,if_neg (by simp [e])];simp
  rw [if_neg e,MK,if_pos (by simp [e]),List.filter_nil,MD,MH,DK,<- ih (by omega)];have h1:=qF (p:=p) locs i y h j;have h2:=cD F.fld (locs.getD j 0) y (aF h j);rw [ij h1 (fZ _ _ _ h2 (ni F.fld)),oO h2 (ni F.fld),ij (aF h j) hy,jS,El.add_comm]
theorem xV {es:List (El m p×El m p)}{locs:List Nat}(h:iX m p es locs)(h0:∀ x∈es,x.1≠0){i:Nat}(hi:i<locs.length):locs.getD i 0≠0:=by
 intro e;have:=h.mem _ (tn hi);rw [e,fq] at this;obtain⟨x,hx,e2⟩:=List.mem_map.1 this;exact h0 x hx e2
theorem DQ {es:List (El m p×El m p)}{locs om_:List Nat}{b:Nat}(hb:b<=1)(h:iX m p es locs)(hn:(es.map Prod.fst).Nodup)(h0:∀ x∈es,x.1≠0/\x.2≠0)(hr:bz m om_)(ho:ap m p om_=om b es){i:Nat}(hi:i<locs.length) :
  dT m p locs i (br m p (locs.getD i 0)) locs.length≠0/\∃ x∈es,x.1=an m p (locs.getD i 0)/\x.2=an m p (iD m p b locs om_ i):=by
 have hl0:=xV h (fun x hx=>(h0 x hx).1) hi;have hll:=aF h.lt i;obtain⟨y,hy⟩:∃ y,br m p (locs.getD i 0)=y:=⟨_,rfl⟩;have hyl:y<2 ^ m:=by rw [<- hy];exact g6 F.fld _
 have hxy:an m p (locs.getD i 0)*an m p y=1:=by rw [<- hy];exact kM hl0 hll
 obtain⟨x,hx,hx1⟩:=List.mem_map.1 (h.mem _ (tn hi));rw [<- hx1] at hxy;have hev:=tu b es x (an m p y) hn hx hxy;have hsame:dv (an m p y) ((es.map Prod.fst).filter fun z=>!decide (z=x.1))=an m p (dT m p locs i y locs.length):=by
  rw [DP locs i y h.lt hyl _ (My _)];refine DM _ _ _ (List.Pairwise.filter _ hn) ?_ ?_
  ·refine qD (List.Pairwise.filter _ List.nodup_range) ?_;intro a ha c hc e;have ha':=List.mem_range.1 (List.mem_filter.1 ha).1;have hc':=List.mem_range.1 (List.mem_filter.1 hc).1;exact tQz h.nodup ha' hc' (jT (aF h.lt a) (aF h.lt c) e)
  intro z;constructor
  ·intro hz;obtain⟨hz1,hz2⟩:=List.mem_filter.1 hz;obtain⟨w,hw,rfl⟩:=List.mem_map.1 hz1;obtain⟨k,hk,e⟩:=h.full hw;refine List.mem_map.2 ⟨k,List.mem_filter.2 ⟨List.mem_range.2 hk,?_⟩,e⟩;have:i≠k:=by
    intro e2;rw [<- e2,<- hx1] at e;simp [e] at hz2
   simpa using this
  intro hz;obtain⟨k,hk,rfl⟩:=List.mem_map.1 hz;obtain⟨hk1,hk2⟩:=List.mem_filter.1 hk;have hk3:=List.mem_range.1 hk1;refine List.mem_filter.2 ⟨h.mem _ (tn hk3),?_⟩;have:an m p (locs.getD k 0)≠x.1:=by
   intro e;rw [hx1] at e;have:=tQz h.nodup hk3 hi (jT (aF h.lt k) (aF h.lt i) e);simp [this] at hk2
  simpa using this
 have hdne:dv (an m p y) ((es.map Prod.fst).filter fun z=>!decide (z=x.1))≠0:=by
  refine qJ _ _ ?_;intro z hz e;obtain⟨hz1,hz2⟩:=List.mem_filter.1 hz;have:z=x.1:=by
   have h1:an m p y≠0:=by
    intro h';rw [h',El.mul_zero] at hxy;exact El.one_ne hxy.symm
   exact El.mul_left_cancel h1 (by rw [El.mul_comm,e,El.mul_comm,hxy])
  simp [this] at hz2
 have hd0:dT m p locs i y locs.length≠0:=by
  intro e;rw [hsame,e,fq] at hdne;exact hdne rfl
 rw [hy];refine⟨hd0,x,hx,hx1,?_⟩;obtain⟨D,hD⟩:∃ D,dT m p locs i y locs.length=D:=⟨_,rfl⟩;have hDl:D<2 ^ m:=by rw [<- hD];exact qF locs i y h.lt _
 rw [hD] at hsame hd0;have hDD:=kM (p:=p) hd0 hDl;have e1:an m p (ao m p y om_)=x.2*El.pow x.1 b*an m p D:=by
  rw [Dy y hyl hr.lt (n:=es.length) (by rw [ho];exact lN b es),ho,hev,hsame]
 have hpl:=jf (p:=p) F.fld y om_ hr.lt;have e2:an m p (gm m p (ao m p y om_) (br m p D))=x.2*El.pow x.1 b:=by
  rw [ij hpl (g6 F.fld D),e1,El.mul_assoc,hDD,El.mul_one]
 unfold iD;rw [hy,hD]
 split
 ·rename_i hb0
  rw [e2,hb0];show x.2=x.2*1;rw [El.mul_one]
 rename_i hb0
 have hb1:b=1:=by omega
 rw [ij (cD F.fld _ _ hpl) hyl,e2,hb1];have:El.pow x.1 1=x.1:=by show 1*x.1=x.1;rw [El.one_mul]
 rw [this,El.mul_assoc,hxy,El.mul_one]
theorem DR {locs om_:List Nat}(b i:Nat)(hr:ab m om_):iD m p b locs om_ i<2 ^ m:=by
 unfold iD;have hpl:=jf (p:=p) F.fld (br m p (locs.getD i 0)) om_ hr
 split
 ·exact cD F.fld _ _ hpl
 exact cD F.fld _ _ (cD F.fld _ _ hpl)
def diff (xs ws:List Nat):List Nat:=List.zipWith (fun a b=>a ^^^ b) xs ws
theorem diff_len (xs ws:List Nat)(h:xs.length=ws.length):(diff xs ws).length=xs.length:=by unfold diff;rw [List.length_zipWith];omega
theorem diff_at (xs ws:List Nat)(h:xs.length=ws.length)(i:Nat)(hi:i<xs.length):(diff xs ws).getD i 0=xs.getD i 0 ^^^ ws.getD i 0:=by
 unfold diff;rw [Mx,List.getElem?_zipWith,Mx,Mx,MA hi,MA (show i<ws.length by omega)];rfl
theorem qG (xs ws:List Nat)(hx:ab m xs)(hw:ab m ws):ab m (diff xs ws):=by
 intro x h;unfold diff at h;obtain⟨i,hi,rfl⟩:=List.mem_iff_getElem.1 h;rw [List.getElem_zipWith];exact fZ _ _ _ (hx _ (MM _)) (hw _ (MM _))
theorem xW {xs ws locs mags:List Nat}(hl:xs.length=ws.length)(hlen:xs.length<=2 ^ m-1)(hx:ab m xs)(hw:ab m ws)(hm:ab m mags)(h:iX m p (cR m p (diff xs ws)) locs)
  (hmag:∀ i,i<locs.length->∃ x∈cR m p (diff xs ws),x.1=an m p (locs.getD i 0)/\x.2=an m p (mags.getD i 0)) (i:Nat) (hi:i<locs.length) :
  ef m p (locs.getD i 0)+1<=xs.length/\locs.getD i 0≠0/\mags.getD i 0=xs.getD (xs.length-1-ef m p (locs.getD i 0)) 0 ^^^ ws.getD (xs.length-1-ef m p (locs.getD i 0)) 0:=by
 obtain⟨x,hx1,hx2,hx3⟩:=hmag i hi;obtain⟨k,k1,k2,k3⟩:=(qA (m:=m) (p:=p) _ x).1 hx1;rw [diff_len xs ws hl] at k1 k3;have e1:gx m p (xs.length-1-k)=locs.getD i 0:=jT (p:=p) (dm F.fld _) (aF h.lt i) (by rw [<- hx2,k3]);have e2:ef m p (locs.getD i 0)=xs.length-1-k:=by rw [<- e1];exact uS F.fld F.prim _ (by omega)
 have e3:mags.getD i 0=(diff xs ws).getD k 0:=jT (p:=p) (aF hm i) (aF (qG xs ws hx hw) k) (by rw [<- hx3,k3]);rw [e2,show xs.length-1-(xs.length-1-k)=k by omega,e3,diff_at xs ws hl k k1];refine⟨by omega,?_,rfl⟩;rw [<- e1];exact pG F.fld F.prim _
theorem vE {xs ws locs mags:List Nat}(hl:xs.length=ws.length)(hlen:xs.length<=2 ^ m-1)(hx:ab m xs)(hw:ab m ws)(hm:ab m mags)(h:iX m p (cR m p (diff xs ws)) locs)
  (hmag:∀ i,i<locs.length->∃ x∈cR m p (diff xs ws),x.1=an m p (locs.getD i 0)/\x.2=an m p (mags.getD i 0)):dM m p xs locs mags locs.length=ws:=by
 have hp:=xW hl hlen hx hw hm h hmag;have hinj:∀ i j,i<locs.length->j<locs.length->xs.length-1-ef m p (locs.getD i 0)=xs.length-1-ef m p (locs.getD j 0)->i=j:=by
  intro i j hi hj e;obtain⟨a1,a2,_⟩:=hp i hi;obtain⟨b1,b2,_⟩:=hp j hj;have g1:=(pJ F.fld F.prim _ a2 (aF h.lt i)).2;have g2:=(pJ F.fld F.prim _ b2 (aF h.lt j)).2;refine tQz h.nodup hi hj ?_;rw [<- g1,<- g2];congr 1;omega
 have key:∀ i,i<=locs.length->∀ q,q<xs.length->((∃ j,j<i/\xs.length-1-ef m p (locs.getD j 0)=q)->(dM m p xs locs mags i).getD q 0=ws.getD q 0)/\((¬ ∃ j,j<i/\xs.length-1-ef m p (locs.getD j 0)=q)->(dM m p xs locs mags i).getD q 0=xs.getD q 0):=by
  intro i
  induction i with
  | zero=>intro _ q hq;exact⟨fun ⟨j,hj,_⟩=>absurd hj (by omega),fun _=>rfl⟩
  | succ i ih=>
   intro hi q hq;obtain⟨a1,a2,a3⟩:=hp i (by omega);obtain⟨P,hP⟩:∃ P,xs.length-1-ef m p (locs.getD i 0)=P:=⟨_,rfl⟩;rw [hP] at a3;have hPl:P<xs.length:=by omega
   have hz:=qE (m:=m) (p:=p) xs locs mags i;have hfix:(dM m p xs locs mags i).getD P 0=xs.getD P 0:=by
    refine ((ih (by omega)) P hPl).2 ?_;rintro⟨j,hj,e⟩;have:=hinj j i (by omega) (by omega) (e.trans hP.symm);omega
   rw [dM,hP];by_cases hq2:P=q
   ·subst hq2;refine⟨fun _=>?_,fun hc=>absurd ⟨i,by omega,hP⟩ hc⟩;rw [Mx,List.getElem?_set_self (by rw [hz];exact hPl),Option.getD_some,hfix,a3,<- Nat.xor_assoc,Nat.xor_self,MJ]
   have e:((dM m p xs locs mags i).set P ((dM m p xs locs mags i).getD P 0 ^^^ mags.getD i 0)).getD q 0=(dM m p xs locs mags i).getD q 0:=by
    rw [Mx,List.getElem?_set_ne hq2,<- Mx]
   rw [e];refine⟨?_,?_⟩;rotate_left
   ·intro hc;exact ((ih (by omega)) q hq).2 fun ⟨j,hj,e2⟩=>hc ⟨j,by omega,e2⟩
   rintro⟨j,hj,e2⟩;refine ((ih (by omega)) q hq).1 ⟨j,?_,e2⟩;by_cases hji:j=i
   ·subst hji;exact absurd (hP.symm.trans e2) hq2
   omega
 apply List.ext_getElem
 ·rw [qE,hl]
 intro q h1 h2;have hq:q<xs.length:=by rw [qE] at h1;exact h1
 have e1:(dM m p xs locs mags locs.length)[q]=(dM m p xs locs mags locs.length).getD q 0:=by rw [Mx,MA h1];rfl
 have e2:ws[q]=ws.getD q 0:=by rw [Mx,MA h2];rfl
 rw [e1,e2];by_cases hd:(diff xs ws).getD q 0=0
 ·have hxw:xs.getD q 0=ws.getD q 0:=by
   rw [diff_at xs ws hl q hq] at hd;have:xs.getD q 0 ^^^ ws.getD q 0 ^^^ ws.getD q 0=0 ^^^ ws.getD q 0:=by rw [hd]
   rwa [Nat.xor_assoc,Nat.xor_self,Nat.xor_zero,MJ] at this
  by_cases hc:∃ j,j<locs.length/\xs.length-1-ef m p (locs.getD j 0)=q
  ·exact ((key _ (My _)) q hq).1 hc
  rw [((key _ (My _)) q hq).2 hc,hxw]
 have hm2:(an m p (gx m p ((diff xs ws).length-1-q)),an m p ((diff xs ws).getD q 0))∈cR m p (diff xs ws):=(qA (m:=m) (p:=p) _ _).2 ⟨q,by rw [diff_len xs ws hl];exact hq,hd,rfl⟩
 obtain⟨i,hi,e⟩:=h.full hm2;refine ((key _ (My _)) q hq).1 ⟨i,hi,?_⟩;rw [diff_len xs ws hl] at e;have e3:locs.getD i 0=gx m p (xs.length-1-q):=jT (p:=p) (aF h.lt i) (dm F.fld _) e;rw [e3,uS F.fld F.prim _ (by omega)];omega
end Po
end Go.Proofs.YtgccjgpdjkhpdaaGreat.B
namespace Go.Proofs.YtgccjgpdjkhpdaaGreat.B
open Go.Proofs.YtgccjgpdjkhpdaaGreat.F (pu_ ta_ no_ hv_ hvS_)
open Go.RowKit Go.Proofs.YtgccjgpdjkhpdaaGreatW.PrintWords Go.Proofs.YtgccjgpdjkhpdaaGreatW.PrintLast Go.Proofs.YtgccjgpdjkhpdaaGreatW.PrintMore
set_option linter.unusedVariables false
set_option linter.unusedSimpArgs false
def xX:Bool×List (List Nat×List Nat):=(true,[([],[]),([],[]),([],[]),([1,2],[1,2]),([],[]),([],[]),([],[]),([5,6],[5,6]),([4,7],[4,7]),([8],[8]),([],[]),([10],[10]),([11],[11]),([12],[12]),([],[]),([],[]),([],[]),([15,16],[15,16]),([17],[17]),([13,14,18],[13,14,18]),([9,19,19],[9,19]),([0,3,0,1,2,3,4,5,6,7,8,9,10,11,12,13,14,15,16,17,18,19,20],[0,3]),([21,20,20,0,1,2,3,4,5,6,7,8,9,10,11,12,13,14,15,16,17,18,19,20],[20,21])])
def B194:List Nat:=[0,0,0,6,0,0,0,96,240,496,0,1024,3072,7168,0,0,0,98304,229376,523264,1048560,2097151,4194303]
theorem DS:cH .any (lC Tryz.f194 17)=xX:=by kernel_rfl
theorem DT:iw xX.2 B194=true:=by kernel_rfl
set_option maxHeartbeats 8000000 in
set_option maxRecDepth 8000 in
theorem DU (w:World)(q1 q2 gf m p b:Nat)(xs ys:List Nat)(F:aG m p)(hP:eA m p)(hm:m<=12)(hG:bF w gf m p b)(hX:aB w q1 gf xs)(hY:aB w q2 gf ys)(hx:ab m xs)(hy:ab m ys)(hl1:xs.length<=2000)(hl2:ys.length<=2000) :
  Calls Tryz.prog 194 #[.pointer (some ⟨q1,0,none⟩),.pointer (some ⟨q2,0,none⟩)] w (qq w gf (eN m p xs ys)):=by
 have c0:=hX.field;have c0':=hY.field;have knq:=fun k=>xm (w.drewN k) ⟨gf,0,none⟩
 have HF:=Mw F;have HP:=Mw hP;have HM:=Mw hm;have HG:=Mw hG;have HX:=Mw hX;have HY:=Mw hY;have HLX:=Mw hx;have HLY:=Mw hy;clear F hP hm hG hX hY hx hy
 go_enter Tryz.func194,Tryz.ntmps194
 go_wp2
 go_quiet (fail)
 clear knq;have HB:=Mw (au (Below.refl w.heap.size w) nq);have HX1:=Mw (HX.out.drawn nq);have HY1:=Mw (HY.out.drawn nq);have HG1:=Mw (HG.out.drawn nq);obtain⟨wd,hwd⟩:∃ wd,w.drewN nq=wd:=⟨_,rfl⟩;rw [hwd] at HB HX1 HY1 HG1 ⊢;clear hwd c0 c0';have k1:=og wd q1 gf xs HX1.out (by omega);have k2:=og wd q2 gf ys HY1.out (by omega);have f0:=HX1.out.field;have kz:=pI wd gf m p b HG1.out;by_cases h0:xs.getD 0 0=0
 ·rw [decide_eq_true h0] at k1;have HE:=Mw (show eN m p xs ys=[0] by unfold eN;rw [if_pos h0])
  clear h0 k2
  go_wp2_with fail
  with_reducible (refine k1.mono ?_)
  rintro e w' ⟨rfl,rfl⟩
  go_wp2_with fail
  with_reducible (refine kz.mono ?_)
  rintro e w2 ⟨z,rfl,hz,rfl⟩;have HZ:=Mw hz;clear hz
  go_wp2_with fail
  go_ret2
  exact⟨z,rfl,by rw [HE.out];exact HZ.out,HB.out⟩
 rw [decide_eq_false h0] at k1;by_cases h1:ys.getD 0 0=0
 ·rw [decide_eq_true h1] at k2;have HE:=Mw (show eN m p xs ys=[0] by unfold eN;rw [if_neg h0,if_pos h1])
  clear h0 h1
  go_wp2_with fail
  with_reducible (refine k1.mono ?_)
  rintro e w' ⟨rfl,rfl⟩
  go_wp2_with fail
  with_reducible (refine k2.mono ?_)
  rintro e w' ⟨rfl,rfl⟩
  go_wp2_with fail
  with_reducible (refine kz.mono ?_)
  rintro e w2 ⟨z,rfl,hz,rfl⟩;have HZ:=Mw hz;clear hz
  go_wp2_with fail
  go_ret2
  exact⟨z,rfl,by rw [HE.out];exact HZ.out,HB.out⟩
 rw [decide_eq_false h1] at k2;have HE:=Mw (show eN m p xs ys=bJ (dS m p xs ys xs.length) by unfold eN;rw [if_neg h0,if_neg h1])
 obtain⟨g1,o1,cc1,a1,a2,a3,a4⟩:=HX1.out;obtain⟨g2,o2,cc2,b1,b2,b3,b4⟩:=HY1.out;have x1:wd.cell? ⟨q1,1,none⟩=some (.slice (some ⟨g1,o1,none⟩) xs.length cc1):=a1.cell 1;have y1:wd.cell? ⟨q2,1,none⟩=some (.slice (some ⟨g2,o2,none⟩) ys.length cc2):=b1.cell 1;have p1:0<xs.length:=List.length_pos_iff.2 a4;have p2:0<ys.length:=List.length_pos_iff.2 b4;have HA3:=Mw a3;have HB3:=Mw b3;obtain⟨n1,hn1⟩:∃ n1,xs.length=n1:=⟨_,rfl⟩;obtain⟨n2,hn2⟩:∃ n2,ys.length=n2:=⟨_,rfl⟩;obtain⟨N,hN⟩:∃ N,n1+n2-1=N:=⟨_,rfl⟩;rw [hn1] at x1 p1 hl1 HE;rw [hn2] at y1 p2 hl2;have hNi:(n1:Int)+(n2:Int)-1=(N:Int):=by omega
 have hN4:N<=4000:=by omega
 have hN2:n1+n2=N+1:=by omega
 have hmk:=kJ N (by omega) wd;obtain⟨w1,hw1⟩:∃ w1,w1=wd.alloc (.cells (ac .i64 (ak (Mz N 0))).toArray 3):=⟨_,rfl⟩;rw [<- hw1] at hmk;obtain⟨gs,hgs⟩:∃ gs,gs=wd.heap.size:=⟨_,rfl⟩;have HB1:=Mw (show Below wd.heap.size wd w1 by rw [hw1];exact ai (Below.refl _ _) _)
 have HZ1:=Mw (show ag w1 gs (dS m p xs ys 0) by rw [hw1,hgs,dS,hn1,hn2,hN];exact Blk.new _ _ _)
 rw [<- hgs] at hmk;have HN1:=Mw hn1;have HN2:=Mw hn2;have HML:=Mw (fun i=>show (dS m p xs ys i).length=N by rw [qv,hn1,hn2,hN]);have HMR:=Mw (fun i a j=>show (gq m p (dS m p xs ys i) ys a i j).length=N by rw [ta,qv,hn1,hn2,hN]);have HGS2:=Mw (show wd.heap.size<=gs by rw [hgs];exact My _)
 clear a1 a3 b1 b3 a4 b4 hw1 hgs hn1 hn2 hN h0 h1
 go_wp2_with fail
 with_reducible (refine k1.mono ?_)
 rintro e w' ⟨rfl,rfl⟩
 go_wp2_with fail
 with_reducible (refine k2.mono ?_)
 rintro e w' ⟨rfl,rfl⟩;obtain⟨wd,hwd⟩:∃ wd,wd=w':=⟨_,rfl⟩;subst hwd;clear k1 k2 kz
 go_wp2_with fail
 clear hmk x1 y1 f0
 go_loopw [11,12,13] (fun vi va vj wr=>∃ i:Nat,vi=.int .i64 (i:Int)/\i<=n1/\Aside0 (Below wd.heap.size wd wr)/\Aside0 (ag wr gs (dS m p xs ys i))) (fun vi _ _ _=>(n1-intOf vi).toNat)
 case atStart=>exact⟨0,rfl,Nat.zero_le _,HB1,HZ1⟩
 case round=>
  clear HB1 HZ1;obtain⟨i,rfl,hin,HBr,HZ⟩:=hrel;obtain⟨wo,hwo⟩:∃ wo,wo=wr:=⟨_,rfl⟩;subst hwo;by_cases hlt:i<n1;rotate_left
  ·have hie:i=n1:=by omega
   subst hie;have hlen:=HML.out i;have kp:=j8 wo gf gs 0 N _ (b6.whole HZ.out) (by rw [hlen];exact My _) (by intro h;rw [h] at hlen;simp at hlen;omega) (by rw [hlen];omega)
   rw [hlen,<- HE.out] at kp;have f1:wo.cell? ⟨q1,0,none⟩=some (.pointer (some ⟨gf,0,none⟩)):=(HX1.out.below HBr.out (My _)).field;clear hlen
   go_wp2_with fail
   with_reducible (refine kp.mono ?_)
   rintro e w3 ⟨qn,rfl,_,hq,hb3⟩;have HQ:=Mw hq;have HB9:=Mw ((HB.out.trans (HBr.out.mono HB.out.size)).trans (hb3.mono (MG HB.out.size HBr.out.size)));clear hq hb3 kp
   go_wp2_with fail
   go_ret2
   exact⟨qn,rfl,HQ.out,HB9.out⟩
  have r0:=(HA3.out.below HBr.out HA3.out.lt).at_ i (by rw [HN1.out];exact hlt)
  obtain⟨x,hx⟩:∃ x,xs.getD i 0=x:=⟨_,rfl⟩;rw [hx] at r0;have HXI:=Mw hx;have HXL:=Mw (show x<2 ^ m by rw [<- hx];exact aF HLX.out i)
  have HR0:=Mw (show ag wo gs (gq m p (dS m p xs ys i) ys x i 0) from HZ.out);clear hx
  go_wp2
  clear r0
  go_loopw [13] (fun vj wr=>∃ j:Nat,vj=.int .i64 (j:Int)/\j<=n2/\Aside0 (Below wd.heap.size wd wr)/\Aside0 (ag wr gs (gq m p (dS m p xs ys i) ys x i j))) (fun vj _=>(n2-intOf vj).toNat)
  case atStart=>exact⟨0,rfl,Nat.zero_le _,HBr,HR0⟩
  case round=>
   clear HBr HZ HR0;obtain⟨j,rfl,hjn,HBr,HZ⟩:=hrel;by_cases hjt:j<n2;rotate_left
   ·have hje:j=n2:=by omega
    subst hje;have HZ3:=Mw (show ag wr gs (dS m p xs ys (i+1)) by
     have h:=HZ.out;rw [dS,HXI.out,HN2.out];exact h)
    go_wp2
    go_roundw
    case rel=>exact⟨i+1,by go_num,by omega,HBr,HZ3⟩
    case measure=>simp [intOf];omega
   obtain⟨k,hk⟩:∃ k,i+j=k:=⟨_,rfl⟩;have hki:(i:Int)+(j:Int)=(k:Int):=by omega
   have hkN:k<N:=by omega
   have HK3:=Mw (show wrap64 (k:Int)=(k:Int) by unfold wrap64;omega)
   have HK4:=Mw (show wrap64 ((i:Int)+(j:Int))=(k:Int) by rw [hki];exact HK3.out)
   have r2:=(HB3.out.below HBr.out HB3.out.lt).at_ j (by rw [HN2.out];exact hjt)
   obtain⟨y,hy⟩:∃ y,ys.getD j 0=y:=⟨_,rfl⟩;rw [hy] at r2;have hyl:y<2 ^ m:=by rw [<- hy];exact aF HLY.out j
   have z1:=HZ.out.cell k (by rw [HMR.out];exact hkN)
   obtain⟨old,hold⟩:∃ old,(gq m p (dS m p xs ys i) ys x i j).getD k 0=old:=⟨_,rfl⟩;rw [hold] at z1;have hol:old<2 ^ m:=by rw [<- hold];exact aF (tb HF.out x i j (tc HF.out i HLX.out) HXL.out) k
   have z2:wr.frozen? ⟨gs,k,none⟩=false:=Blk.frozen HZ.out _;have f0:wr.cell? ⟨q1,0,none⟩=some (.pointer (some ⟨gf,0,none⟩)):=(HX1.out.below HBr.out (My _)).field;obtain⟨t,ht⟩:∃ t,gm m p x y=t:=⟨_,rfl⟩;have htl:t<2 ^ m:=by rw [<- ht];exact cD HF.out x y HXL.out
   obtain⟨z,hz⟩:∃ z,old ^^^ t=z:=⟨_,rfl⟩;have hp12:2 ^ m<=4096:=MG (MY (by omega) HM.out) (by decide);have km1:Calls Tryz.prog 186 #[.pointer (some ⟨gf,0,none⟩),.int .i64 (x:Int),.int .i64 (y:Int)] wr.drew fun e w'=>e=.returned (.int .i64 (t:Int))/\∃ k,w'=wr.drew.drewN k:=by
    have:=lw (wr.drewN 1) gf m p b x y HF.out HP.out HM.out ((HG1.out.below HBr.out (My _)).drawn 1) HXL.out hyl;rw [ht] at this;exact this
   have km2:∀ W,Calls Tryz.prog 184 #[.int .i64 (old:Int),.int .i64 (t:Int)] W fun e w'=>e=.returned (.int .i64 (z:Int))/\∃ k,w'=W.drewN k:=fun W=>by
    rw [<- hz];refine (oc W old t (by omega) (by omega)).mono ?_;rintro e w' ⟨h1,h2⟩;exact⟨h1,0,h2⟩
   have HZ2:=Mw (fun kk=>show ag ((wr.drewN kk).setCell ⟨gs,k,none⟩ (.int .i64 (z:Int))) gs (gq m p (dS m p xs ys i) ys x i (j+1)) by
    have:=(show ag (wr.drewN kk) gs (gq m p (dS m p xs ys i) ys x i j) from Blk.below HZ.out (au (Below.refl wr.heap.size wr) kk) (Blk.lt HZ.out)).set k z;rw [gq,hk,hold,hy,ht,hz];exact this)
   have HBZ:=Mw (fun kk=>(show Below wd.heap.size wd ((wr.drewN kk).setCell ⟨gs,k,none⟩ (.int .i64 (z:Int))) from Below.setc (au HBr.out kk) HGS2.out _));have e1:=eq_true (show (0:Int)<=(j:Int) by omega);have e2:=eq_true (show (j:Int)<(n2:Int) by omega);have e3:=eq_true (show (0:Int)<=(k:Int) by omega);have e4:=eq_true (show (k:Int)<(N:Int) by omega);clear hy hold hyl hol ht htl hz hp12 hk
   go_wp2
   have hkw3:=HK3.out;have hkw4:=HK4.out;refine ji (n:=23) (S:=fun w'=>w'.cell? ⟨gs,k,none⟩=some (.int .i64 (old:Int))/\w'.cell? ⟨q1,0,none⟩=some (.pointer (some ⟨gf,0,none⟩))/\w'.cell? ⟨g2,o2+j,none⟩=some (.int .i64 (y:Int))) (ds:=[22]) #[false,false,false,false,false,false,false,false,false,false,false,false,false,false,false,false,false,false,false,false,false,false,false] (by kernel_rfl) rfl rfl ⟨z1,f0,r2⟩ (fun hHeld=>?_);refine jn DS DT (fun HT_ HW_=>?_);refine pu_ 0 66 HT_ ?_;refine pu_ 1 67 HT_ ?_;refine pu_ 2 68 HT_ ?_;refine pu_ 4 70 HT_ ?_;refine pu_ 5 71 HT_ ?_;refine pu_ 6 72 HT_ ?_;refine pu_ 10 76 HT_ ?_;refine pu_ 14 80 HT_ ?_;refine pu_ 15 81 HT_ ?_;refine pu_ 16 82 HT_ ?_;refine pu_ 3 69 HT_ ?_;refine pu_ 7 73 HT_ ?_;refine pu_ 8 74 HT_ ?_;refine pu_ 11 77 HT_ ?_;refine pu_ 12 78 HT_ ?_;refine pu_ 17 83 HT_ ?_;refine ta_ 9 75 HT_ HW_ hHeld ?_;refine ta_ 13 79 HT_ HW_ hHeld ?_;refine ta_ 18 84 HT_ HW_ hHeld ?_;refine hJ (i:=19) (N:=some 85) #[true,true,true,true,true,true,true,true,true,true,true,true,true,true,true,true,true,true,true,true,false,false,false] rfl rfl (dJ HT_.out (by kernel_rfl)) (by decide) (fun K hK=>?_);refine ia Tryz.func186 (by kernel_rfl) rfl #[.pointer (some ⟨gf,0,none⟩),.int .i64 (x:Int),.int .i64 (y:Int)] (by rfl) rfl rfl (by (try simp only [MP,MD,MH]);first | done | rfl) ?_
   refine (km1).mono ?_;rintro e0 w5 ⟨rfl,nd,rfl⟩;refine⟨_,rfl,?_⟩;refine hK.out _ _ ⟨z1,f0,r2⟩ (fun hHeld=>?_);clear hK K;refine no_ ?_;refine hJ (i:=20) (N:=some 86) #[true,true,true,true,true,true,true,true,true,true,true,true,true,true,true,true,true,true,true,true,true,false,false] rfl rfl (dJ HT_.out (by kernel_rfl)) (by decide) (fun K hK=>?_);refine ia Tryz.func184 (by kernel_rfl) rfl #[.int .i64 (old:Int),.int .i64 (t:Int)] (by rfl) rfl rfl (by (try simp only [MP,MD,MH]);first | done | rfl) ?_
   refine (km2 _).mono ?_;rintro e0 w5 ⟨rfl,nd,rfl⟩;refine⟨_,rfl,?_⟩;refine hK.out _ _ ⟨z1,f0,r2⟩ (fun hHeld=>?_);clear hK K;refine no_ ?_;refine pu_ 21 87 HT_ ?_;refine jj (i:=22) (N:=none) #[true,true,true,true,true,true,true,true,true,true,true,true,true,true,true,true,true,true,true,true,true,true,true] rfl rfl (dJ HT_.out (by kernel_rfl)) (by decide) (fun K hK=>?_);refine jl (w1:=?_) (by rfl) rfl ?_ ?_;rotate_left
   ·go_simp
    rfl
   refine hK.out _ _ ?_;clear hK K;refine jk (jm HT_.out (by kernel_rfl)) ?_;clear hkw3 hkw4 r2 f0 z1 z2 hHeld HT_ HW_ km1 km2 e1 e2 e3 e4
   go_wp2
   go_roundw
   case rel=>exact⟨j+1,by go_num,by omega,⟨HBZ.out _⟩,⟨HZ2.out _⟩⟩
   case measure=>simp [intOf];omega
end Go.Proofs.YtgccjgpdjkhpdaaGreat.B
namespace Go.Proofs.YtgccjgpdjkhpdaaGreat.B
open Go.RowKit Go.Proofs.YtgccjgpdjkhpdaaGreatW.PrintWords Go.Proofs.YtgccjgpdjkhpdaaGreatW.PrintLast Go.Proofs.YtgccjgpdjkhpdaaGreatW.PrintMore
set_option linter.unusedVariables false
set_option linter.unusedSimpArgs false
def eO (m p b T:Nat)(xs:List Nat)(i:Nat):List Nat:=Mz (T-i) 0++(List.range i).reverse.map fun j=>ao m p (gx m p (j+b)) xs
theorem xY (m p b T:Nat)(xs:List Nat)(i:Nat)(h:i<=T):(eO m p b T xs i).length=T:=by
 unfold eO;simp;omega
theorem DV (m p b T:Nat)(xs:List Nat)(i:Nat)(h:i<T):(eO m p b T xs i).set (T-1-i) (ao m p (gx m p (i+b)) xs)=eO m p b T xs (i+1):=by
 unfold eO;rw [show T-i=(T-1-i)+1 by omega,List.replicate_succ',List.append_assoc,List.set_append_right _ _ (by simp),ME,MC,List.singleton_append,List.set_cons_zero,show T-(i+1)=T-1-i by omega,List.range_succ,List.reverse_append,List.map_append];rfl
theorem DW {m p:Nat}(F:aG m p)(b T:Nat)(xs:List Nat)(hx:ab m xs)(i:Nat):ab m (eO m p b T xs i):=by
 unfold eO;refine ab.app (jq m _) ?_;intro y hy;obtain⟨j,_,rfl⟩:=List.mem_map.1 hy;exact jf F _ xs hx
theorem DX (m p b T:Nat)(xs:List Nat)(i:Nat)(h:i<T):(eO m p b T xs i).getD (T-1-i) 0=0:=by
 unfold eO;rw [Mx,List.getElem?_append_left (by simp;omega),List.getElem?_replicate]
 split<;>rfl
namespace Po
variable {m p:Nat} [F:FF m p]
theorem xZ (r:Nat)(hr:r<2 ^ m)(xs ws:List Nat)(hl:xs.length=ws.length)(hx:ab m xs)(hw:ab m ws)(h0:ao m p r ws=0):ao m p r (diff xs ws)=ao m p r xs:=by
 unfold diff;have:=uP F.fld r hr xs ws hl hx hw;rw [h0,Nat.xor_zero] at this;exact this
theorem DY (b T:Nat)(xs ws:List Nat)(hl:xs.length=ws.length)(hx:ab m xs)(hw:ab m ws)(h0:∀ i,i<T->ao m p (gx m p (i+b)) ws=0):ap m p (eO m p b T xs T)=dg b T (cR m p (diff xs ws)):=by
 apply ext';intro i;have hlen:=xY m p b T xs T (My _);by_cases hi:i<T;rotate_left
 ·rw [fM _ i (by rw [hlen];omega)]
  have:∀ es:List (El m p×El m p),dg b T es i=0:=by
   intro es
   induction es with
   | nil=>rfl
   | cons x es ih=>
    rw [dg,ik,ih,El.add_zero];show (if i<T then _ else _)=_;rw [if_neg hi]
  exact (this _).symm
 rw [<- xQ b T i hi _ (qG xs ws hx hw),xZ _ (dm F.fld _) xs ws hl hx hw (h0 i hi)];unfold ap eO;rw [MC,MU,List.nil_append,<- List.map_reverse,List.reverse_reverse,Mx,List.getElem?_map,List.getElem?_range hi];rfl
theorem DZ (b N:Nat)(es:List (El m p×El m p))(hN:1<=N)(hl:es.length<=N)(hn:(es.map Prod.fst).Nodup)(h0:∀ x∈es,x.1≠0/\x.2≠0)(hs:∀ i,i<N->dg b N es i=0):es=[]:=by
 cases he:es with
 | nil=>rfl
 | cons x es'=>
  exfalso;have hx:x∈es:=by rw [he];exact ML ..
  have hz:dg b N es=0:=by
   apply ext';intro i;by_cases hi:i<N
   ·exact hs i hi
   have:∀ es:List (El m p×El m p),dg b N es i=0:=by
    intro es
    induction es with
    | nil=>rfl
    | cons x es ih=>
     rw [dg,ik,ih,El.add_zero];show (if i<N then _ else _)=_;rw [if_neg hi]
   exact this _
  have hk:=yd b N hN es;rw [hz,mul_zero] at hk;have hom:om b es=0:=by
   apply ext';intro i;by_cases hi:i<N;rotate_left
   ·exact lN b es i (by omega)
   have h1:=congrFun hk i;rw [ik,mF,if_pos hi,El.add_zero] at h1;exact h1.symm
  have hv:x.1.v<2 ^ m:=x.1.lt;have hv0:x.1.v≠0:=El.ne_zero (h0 x hx).1;have hxv:an m p x.1.v=x.1:=El.ext' (jr hv);have hxy:x.1*an m p (br m p x.1.v)=1:=by
   have:=kM (p:=p) hv0 hv
   rwa [hxv] at this
  have hev:=tu b es x _ hn hx hxy;rw [hom] at hev;have hz2:ev es.length (0:Po m p) (an m p (br m p x.1.v))=0:=El.sum_zero' fun i _=>by rw [D9,El.zero_mul]
  rw [hz2] at hev;refine El.mul_ne (El.mul_ne (h0 x hx).2 (El.pow_ne (h0 x hx).1 b)) (qJ _ _ ?_) hev.symm;intro z hz e;obtain⟨_,hz2⟩:=List.mem_filter.1 hz;have hi:an m p (br m p x.1.v)≠0:=ng (g6 F.fld _) (qC hv0 hv);have:z=x.1:=El.mul_left_cancel hi (by rw [El.mul_comm,e,El.mul_comm,hxy]);simp [this] at hz2
theorem D4 (xs ws:List Nat)(hl:xs.length=ws.length)(hx:ab m xs)(hw:ab m ws)(h:cR m p (diff xs ws)=[]):xs=ws:=by
 apply List.ext_getElem hl;intro i h1 h2;have hd:(diff xs ws).getD i 0=0:=by
  apply Classical.byContradiction;intro hc;have:=(qA (m:=m) (p:=p) (diff xs ws) _).2 ⟨i,by rw [diff_len xs ws hl];exact h1,hc,rfl⟩
  rw [h] at this;cases this
 rw [diff_at xs ws hl i h1] at hd;have e1:xs.getD i 0=xs[i]:=by rw [Mx,MA h1];rfl
 have e2:ws.getD i 0=ws[i]:=by rw [Mx,MA h2];rfl
 rw [e1,e2] at hd;have:xs[i] ^^^ ws[i] ^^^ ws[i]=0 ^^^ ws[i]:=by rw [hd]
 rwa [Nat.xor_assoc,Nat.xor_self,Nat.xor_zero,MJ] at this
end Po
end Go.Proofs.YtgccjgpdjkhpdaaGreat.B
