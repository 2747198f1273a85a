import Derived.Test.YtgccjgpdjkhpdaaGreatVErrors33
open Go.Proofs.YtgccjgpdjkhpdaaGreatW.PrintWords.Aside0 renaming mk→Mw
open Nat renaming le_refl→Mx
open List renaming getD_eq_getElem?_getD→My,length_set→Mz
/-! Own texts of this claim, part 37. -/
namespace Go.Proofs.YtgccjgpdjkhpdaaGreat.B
open Go.RowKit Go.Proofs.YtgccjgpdjkhpdaaGreatW.PrintWords Go.Proofs.YtgccjgpdjkhpdaaGreatW.PrintLast Go.Proofs.YtgccjgpdjkhpdaaGreatW.PrintMore
set_option linter.unusedVariables false
set_option linter.unusedSimpArgs false
def lW (a b:Int):Int:=if a==1 && b==1 then 3 else if a==1 && b==0 || a==2 && b==1 then 2 else if a==1 || a==3 && b==1 then 1 else 0
theorem Ad (a b:Int):0<=lW a b/\lW a b<=3:=by
 unfold lW
 split<;>try split<;>try split
 all_goals omega
set_option maxHeartbeats 4000000 in
theorem JJ (w:World)(a b:Int)(E:Nat)(n:Int)(hE:3<=E/\E<=100)(k1:Calls Tryz.prog 55 #[.int .i64 a,.int .i64 b] w fun e w'=>e=.returned (.tuple #[.int .i64 (E:Int),.int .i64 n])/\Below w.heap.size w w') :
  Calls Tryz.prog 69 #[.int .i64 a,.int .i64 b] w fun e w'=>e=.returned (.int .i64 (((E:Int)-lW a b)/2))/\Below w.heap.size w w':=by
 have hE1:=hE.1;have hE2:=hE.2;have ha:a=1\/a=2\/a=3\/((a==1)=false/\(a==2)=false/\(a==3)=false):=by
  simp only [beq_eq_false_iff_ne];omega
 have hb:b=0\/b=1\/((b==0)=false/\(b==1)=false):=by
  simp only [beq_eq_false_iff_ne];omega
 clear hE;obtain⟨K,hK⟩:∃ K,lW a b=K:=⟨_,rfl⟩;rw [hK];have HK:=Mw hK;clear hK;rcases ha with rfl | rfl | rfl | ⟨a1,a2,a3⟩<;>rcases hb with rfl | rfl | ⟨b0,b1⟩
 all_goals
  go_enter Tryz.func69,Tryz.ntmps69
  go_wp2_with (go_at_call 55;refine k1.mono ?_;rintro e w1 ⟨rfl,hb1⟩;have HB1:=Mw hb1;clear hb1)
  go_ret
  refine⟨?_,HB1.out⟩;have hK:=HK.out;simp [lW, *] at hK;subst hK
  first | rfl | (rw [Int.sub_zero];rfl)
theorem Ae:∀ (v:Fin 40) (l:Fin 4),3<=aW (v.1+1) l.1/\aW (v.1+1) l.1<=100:=by decide +kernel
def lp (v l:Nat):Nat:=(((aW v l:Int)-lW v l)/2).toNat
theorem Af (v l:Nat)(hv:1<=v/\v<=40)(hl:l<4):2*lp v l<=aW v l/\lp v l<=50:=by
 have h:=Ae ⟨v-1,by omega⟩ ⟨l,hl⟩;simp only [show v-1+1=v by omega] at h;have:=Ad v l;unfold lp;omega
theorem JK (w:World)(v l:Nat)(hv:1<=v/\v<=40)(hl:l<4) :
  Calls Tryz.prog 69 #[.int .i64 (v:Int),.int .i64 (l:Int)] w fun e w'=>e=.returned (.int .i64 (lp v l:Int))/\Below w.heap.size w w':=by
 have h:=Ae ⟨v-1,by omega⟩ ⟨l,hl⟩;simp only [show v-1+1=v by omega] at h;refine (JJ w v l _ _ h (pe w v l hv hl)).mono ?_;rintro e w1 ⟨rfl,hb⟩;have:=Ad v l;refine⟨?_,hb⟩;rw [show ((lp v l:Nat):Int)=((aW v l:Int)-lW v l)/2 by unfold lp;omega]
def nU (w:World)(A:Option Addr)(m:Nat):Prop:=∀ i,i<m->∃ (ad:Addr) (x y:Int),A=some ad/\w.cell? (ad.add (i*2))=some (.int .i64 x)/\w.cell? (ad.add (i*2+1))=some (.int .u8 y)/\(-9223372036854775808<=x/\x<=9223372036854775807)/\0<=y/\y<=255
def lq (T:Nat)(code cb:Nat->List Nat)(ps:Nat->List Nat):Prop:=∀ k,(cb k).length=(code k).length/\ab 8 (cb k)/\(ps k).length<=T/\∀ x,x∉ps k->(cb k).getD x 0=(code k).getD x 0
structure eX (w:World)(B hb n:Nat)(hs:Nat->Option Nat)(ps:Nat->List Nat):Prop where
 row:Blk w hb 128 (lU n hs).toArray
 own:B<=hb
 at_:∀ k,k<n->match hs k with | none=>ps k=[] | some mb=>B<=mb/\eu w mb (ps k)
 inj:∀ i j m,i<n->j<n->hs i=some m->hs j=some m->i=j
theorem eX.keep {w w':World}{B hb n:Nat}{hs:Nat->Option Nat}{ps:Nat->List Nat}(h:eX w B hb n hs ps)(h1:w'.heap[hb]? = w.heap[hb]?)(h2:∀ k mb,k<n->hs k=some mb->w'.heap[mb]? = w.heap[mb]?):eX w' B hb n hs ps:=by
 refine⟨h1.trans h.row,h.own,fun k hk=>?_,h.inj⟩;have:=h.at_ k hk;cases hm:hs k with
 | none=>rw [hm] at this;exact this
 | some mb=>rw [hm] at this;exact⟨this.1,this.2.move (h2 k mb hk hm)⟩
theorem eX.map {w:World}{B hb n:Nat}{hs:Nat->Option Nat}{ps:Nat->List Nat}(h:eX w B hb n hs ps){k mb:Nat}(hk:k<n)(hm:hs k=some mb):B<=mb/\eu w mb (ps k):=by
 have:=h.at_ k hk;rw [hm] at this;exact this
theorem eX.below {w w':World}{B hb n:Nat}{hs:Nat->Option Nat}{ps:Nat->List Nat}(h:eX w B hb n hs ps)(hw:Below w.heap.size w w'):eX w' B hb n hs ps :=
 h.keep (hw.block _ h.row.lt) fun k mb hk hm=>hw.block _ (h.map hk hm).2.lt
theorem eX.cell {w:World}{B hb n:Nat}{hs:Nat->Option Nat}{ps:Nat->List Nat}(h:eX w B hb n hs ps)(k:Nat)(hk:k<n):w.cell? ⟨hb,k,none⟩=some (.map (hs k)):=by
 rw [h.row.cell k];simp [lU,rP,List.getElem?_range hk]
theorem d9.keep {w w':World}{B:Nat}{vo:Value}{n:Nat}{code:Nat->List Nat}{qs cs:Nat->Nat}(h:d9 w B vo n code qs cs)(hk:∀ g t ys,Blk w g t ys->t=5\/t=26->w'.heap[g]? = w.heap[g]?):d9 w' B vo n code qs cs:=by
 refine⟨ei h.own fun k hko=>?_,fun k hkn=>?_,h.inj⟩
 ·obtain⟨cq,hq⟩:=eM h.own k hko;exact hk k 26 cq hq (.inr rfl)
 obtain⟨h1,h2,⟨ys,h3⟩,h4⟩:=h.blk k hkn;have hm:=hk _ 5 ys h3 (.inl rfl);refine⟨h1,h2,⟨ys,hm.trans h3⟩,fun i hi=>?_⟩;have:=h4 i hi;unfold World.cell? at this ⊢;rw [hm];exact this
theorem eX.setNew {w:World}{B hb n mb k:Nat}{hs:Nat->Option Nat}{ps:Nat->List Nat}(h:eX w B hb n hs ps)(hk:k<n)(hm:hs k=none)(hM:eu w mb [])(hB:B<=mb)(hne:hb≠mb)(hnew:∀ i m,i<n->hs i=some m->m≠mb) :
  eX (w.setCell ⟨hb,k,none⟩ (.map (some mb))) B hb n (fun i=>if i=k then some mb else hs i) ps:=by
 have hT:=af.set w hb k (.map (some mb));have ho:∀ i m,i<n->hs i=some m->m≠hb:=fun i m hi him e=>by
  obtain⟨D,⟨es,clock,q1,_⟩,_⟩:=(h.map hi him).2;have:=h.row;unfold Blk at this;rw [<- e,q1] at this;cases this
 refine⟨?_,h.own,fun i hi=>?_,fun i j m hi hj h1 h2=>?_⟩
 ·have:=bK h.row k (.map (some mb));unfold Blk;rw [this];congr 2;apply Array.toList_inj.1;rw [Array.toList_setIfInBounds];apply List.ext_getElem
  ·simp [lU]
  intro i h1 h2;simp only [lU,rP,List.getElem_set,List.getElem_map,List.getElem_range];by_cases hik:i=k
  ·rw [if_pos hik.symm,if_pos hik]
  rw [if_neg (fun e=>hik e.symm),if_neg hik]
 ·by_cases hik:i=k
  ·subst hik;have h0:=h.at_ i hk;rw [hm] at h0;simp only [if_pos];exact⟨hB,by rw [show ps i=[] from h0];exact hM.move (hT.block mb (fun e=>hne e.symm))⟩
  simp only [if_neg hik];have h0:=h.at_ i hi;cases hmi:hs i with
  | none=>rw [hmi] at h0;exact h0
  | some m=>rw [hmi] at h0;exact⟨h0.1,h0.2.move (hT.block m (ho i m hi hmi))⟩
 by_cases hik:i=k
 ·by_cases hjk:j=k
  ·rw [hik,hjk]
  simp only [if_pos hik,if_neg hjk] at h1 h2;exact absurd (Option.some.inj h1).symm (hnew j m hj h2)
 by_cases hjk:j=k;rotate_left
 ·simp only [if_neg hik,if_neg hjk] at h1 h2;exact h.inj i j m hi hj h1 h2
 simp only [if_neg hik,if_pos hjk] at h1 h2;exact absurd (Option.some.inj h2).symm (hnew i m hi h1)
theorem eu.ne {w:World}{mb g:Nat}{t:TypeId}{ps:List Nat}{ys:Array Value}(h:eu w mb ps)(hg:Blk w g t ys):g≠mb:=by
 obtain⟨D,⟨es,clock,q1,_⟩,_⟩:=h;rintro rfl;unfold Blk at hg;rw [q1] at hg;cases hg
theorem eX.turn {w w':World}{B hb n mb k:Nat}{hs:Nat->Option Nat}{ps:Nat->List Nat}{xs:List Nat}(h:eX w B hb n hs ps)(hk:k<n)(hm:hs k=some mb)(hT:af w w' mb)(hx:eu w' mb xs):eX w' B hb n hs (fun i=>if i=k then xs else ps i):=by
 refine⟨hT.blk h.row ((h.map hk hm).2.ne h.row),h.own,fun i hi=>?_,h.inj⟩;have h0:=h.at_ i hi;by_cases hik:i=k
 ·subst hik;rw [hm] at h0 ⊢;exact⟨h0.1,by simp only [if_pos];exact hx⟩
 simp only [if_neg hik];cases hmi:hs i with
 | none=>rw [hmi] at h0;exact h0
 | some m=>rw [hmi] at h0;exact⟨h0.1,h0.2.move (hT.block m (fun e=>hik (h.inj i k m hi hk hmi (by rw [e];exact hm))))⟩
theorem JL (a:Nat)(y:Int):∃ v:Nat,Go.bits .xor .u8 (a:Int) y=(v:Int)/\v<256:=by
 simp only [Go.bits];rw [IntKind.wrap_u8];exact⟨_,(Int.toNat_of_nonneg (by omega)).symm,by omega⟩
theorem d9.put {w:World}{B:Nat}{vo:Value}{n:Nat}{cb:Nat->List Nat}{qs cs:Nat->Nat}(h:d9 w B vo n cb qs cs)(b x y:Nat)(hb:b<n)(hx:x<(cb b).length) :
  d9 (w.setCell ⟨qs b,x,none⟩ (.int .u8 (y:Int))) B vo n (fun k=>if k=b then (cb b).set x y else cb k) qs cs:=by
 have hT:=af.set w (qs b) x (.int .u8 (y:Int));obtain⟨_,_,⟨zs,hzs⟩,hby⟩:=h.blk b hb;have hlen:∀ k,(if k=b then (cb b).set x y else cb k).length=(cb k).length:=fun k=>by
  by_cases hk:k=b
  ·rw [if_pos hk,hk,Mz]
  rw [if_neg hk]
 refine⟨?_,fun k hk=>?_,h.inj⟩
 ·have h1:=ei (w1:=w.setCell ⟨qs b,x,none⟩ (.int .u8 (y:Int))) h.own fun k hk=>(by
   obtain⟨cq,hq⟩:=eM h.own k hk;refine hT.block k fun e=>?_
   rw [e] at hq;have:=hzs.symm.trans hq;injection this with this;injection this with _ this;cases this)
  simp only [hlen];exact h1
 obtain⟨h1,h2,⟨ys,h3⟩,h4⟩:=h.blk k hk;by_cases hkb:k=b;rotate_left
 ·simp only [if_neg hkb];have hne:qs k≠qs b:=by
   rcases Nat.lt_or_gt_of_ne hkb with hl | hl
   ·exact Nat.ne_of_lt (h.inj k b hl hb)
   exact Nat.ne_of_gt (h.inj b k hl hk)
  have hm:=hT.block (qs k) hne;refine⟨h1,h2,⟨ys,hm.trans h3⟩,fun i hi=>?_⟩;have:=h4 i hi;unfold World.cell? at this ⊢;rw [hm];exact this
 subst hkb;simp only [if_pos];refine⟨h1,by rw [Mz];exact h2,⟨_,bK h3 x _⟩,fun i hi=>?_⟩
 rw [Mz] at hi;by_cases hix:i=x
 ·subst hix;rw [Nat.zero_add,World.cell?_setCell_same w _ _ ((by have:=h4 i hi;rw [Nat.zero_add] at this;exact this))]
  simp [My,hi]
 have:=h4 i hi;rw [Nat.zero_add] at this ⊢;rw [World.cell?_setCell_other w _ _ _ (by intro e;injection e;omega),this]
 rw [My,My,List.getElem?_set_ne (fun e=>hix e.symm)]
theorem lq.put {T b x y:Nat}{code cb ps:Nat->List Nat}{p:List Nat}(h:lq T code cb ps)(hy:y<256)(hx:x∈p)(hp:∀ q∈ps b,q∈p)(hT:p.length<=T) :
  lq T code (fun k=>if k=b then (cb b).set x y else cb k) (fun k=>if k=b then p else ps k):=fun k=>by
 obtain⟨h1,h2,h3,h4⟩:=h k;by_cases hkb:k=b;rotate_left
 ·simp only [if_neg hkb];exact⟨h1,h2,h3,h4⟩
 subst hkb;simp only [if_pos];refine⟨by rw [Mz];exact h1,fun v hv=>?_,hT,fun q hq=>?_⟩
 ·rcases List.mem_or_eq_of_mem_set hv with h | h
  ·exact h2 v h
  rw [h];exact hy
 rw [<- h4 q (fun hq'=>hq (hp q hq')),My,My,List.getElem?_set_ne (fun e=>hq (by rw [<- e];exact hx))]
theorem map_nil (x:Option Nat)(w:World):(binOp .eql 128 (.map x) (.map none)).run Tryz.prog w=.ok (.bool x.isNone) w:=by
 cases x<;>kernel_rfl
theorem Ag (x:Int)(n:Nat)(h0:0<n)(hn:n<=1000000):∃ b:Nat,(wrap64 (x.tmod n+n)).tmod n=(b:Int)/\b<n:=by
 have h1:=Int.tmod_lt_of_pos x (show (0:Int)<(n:Int) by omega);have h2:=Int.lt_tmod_of_pos x (show (0:Int)<(n:Int) by omega);obtain⟨r,hr⟩:∃ r,x.tmod (n:Int)=r:=⟨_,rfl⟩;rw [hr] at h1 h2 ⊢;rw [show wrap64 (r+(n:Int))=r+n by unfold wrap64;omega,Int.tmod_eq_emod_of_nonneg (by omega)]
 have h3:=Int.emod_nonneg (r+n) (show (n:Int)≠0 by omega);have h4:=Int.emod_lt_of_pos (r+n) (show (0:Int)<(n:Int) by omega);exact⟨((r+n)%n).toNat,by omega,by omega⟩
set_option maxHeartbeats 4000000 in
set_option maxRecDepth 100000 in
theorem JM (w:World)(v l q N cN m cw:Nat)(A:Option Addr)(ws:List Nat)(hv:1<=v/\v<=40)(hl:l<4)(hD:dZ w q 0 ws)(hq:q<w.heap.size)(hn:ws.length=N)(hr:N=cz v l)(hw:ab 8 ws)(hc:N<=cN)
  (hP:nU w A m) (hm:m<=2147483647) (hcw:m<=cw) :
  Calls Tryz.prog 33 #[.slice (some ⟨q,0,none⟩) N cN,.int .i64 (v:Int),.int .i64 (l:Int),.slice A m cw] w fun e w'=>∃ v' t cb ps,e=.returned (.tuple #[v',.int .i64 t])/\
   w'.ownsRow w.heap.size 5 1 v' (bW v/8) (ac .u8 (ak (gM (av v l) (aN v l) (aE v l) (aW v l) fun k i=>(cb k).getD i 0)))/\lq (lp v l) (eV (av v l) (aN v l) (aW v l) ws) cb ps/\Below w.heap.size w w':=by
 have k27:=I4 w v l q N cN ws hv hl hD hq hn hr hw hc;have k69:=Mw (fun W=>JK W v l hv hl);have hcl:=zS v l ws hv hl (hn.trans hr);have k26:=Mw (fun W B vo cb qs cs=>I9 W v l B vo cb qs cs hv hl);have hcb8:∀ k,ab 8 (eV (av v l) (aN v l) (aW v l) ws k):=fun k=>zN _ _ _ ws k hw
 have hcc:=(eD v l hv hl).cc;have hc1:=(eD v l hv hl).c1;have he2:=(eD v l hv hl).e2;have hd2:=(eD v l hv hl).d2;have hT:=(Af v l hv hl).2;obtain⟨code,hcode⟩:∃ code,eV (av v l) (aN v l) (aW v l) ws=code:=⟨_,rfl⟩;rw [hcode] at k27 hcl hcb8 ⊢;obtain⟨T,hTT⟩:∃ T,lp v l=T:=⟨_,rfl⟩;rw [hTT] at k69 hT ⊢;obtain⟨n,hnn⟩:∃ n,av v l+aE v l=n:=⟨_,rfl⟩;rw [hnn] at k27 hcl hcc k26;have hn0:0<n:=by omega
 have hcl2:∀ k,k<n->0<(code k).length/\(code k).length<=1000:=fun k hk=>by
  rw [hcl k hk];have:=(eD v l hv hl).d1;unfold dl
  split<;>omega
 have HCL:=Mw hcl;have HCL2:=Mw hcl2;have HC8:=Mw hcb8;have HP:=Mw hP;clear hcl hcl2 hcb8 hP hcode hnn hTT hD hq hn hr hw hc he2 hd2 hc1
 go_enter Tryz.func33,Tryz.ntmps33
 go_wp2_with fail
 refine k27.mono ?_;rintro e w1 ⟨vo,qs,cs,rfl,hR,hb1⟩;obtain⟨qb,cap,hvo,hqb,hcb,hcell⟩:=hR.open hn0;subst hvo;have HR:=Mw hR;have HB1:=Mw hb1;clear hR hb1 hcell k27;have mk:=Jf n (by omega) w1;obtain⟨w2,hw2⟩:∃ w2,w2=w1.alloc (.cells (lU n fun _=>none).toArray 128):=⟨_,rfl⟩;rw [<- hw2] at mk;have HW2:=Mw hw2;have HB2:=Mw (show Below w1.heap.size w1 w2 by rw [hw2];exact ai (Below.refl _ _) _)
 have HR2:=Mw (HR.out.below HB2.out (Mx _));have HH2:=Mw (show eX w2 w.heap.size w1.heap.size n (fun _=>none) (fun _=>[]) from ⟨by rw [hw2];exact Blk.new _ _ _,HB1.out.size,fun k hk=>rfl,fun i j m _ _ h=>by cases h⟩)
 have HD2:=Mw (show lq T code code fun _=>[] from fun k=>⟨rfl,HC8.out k,by simp,fun x _=>rfl⟩);clear hw2
 go_wp2_with fail
 go_loopw [12,26] (fun vt vi wr=>∃ (i j:Nat) (cb:Nat->List Nat) (hs:Nat->Option Nat) (ps:Nat->List Nat),vt=.int .i64 (j:Int)/\vi=.int .i64 (i:Int)/\i<=m/\j<=i/\Aside0 (d9 wr w.heap.size (.slice (some ⟨qb,0,none⟩) n cap) n cb qs cs)/\Aside0 (eX wr w.heap.size w1.heap.size n hs ps)/\Aside0 (lq T code cb ps)/\Aside0 (Below w.heap.size w wr)/\Aside0 (w2.heap.size<=wr.heap.size)) (fun _ vi _=>(m-intOf vi).toNat)
 case atStart=>exact⟨0,0,code,_,_,rfl,rfl,Nat.zero_le _,Nat.zero_le _,HR2,HH2,HD2,⟨HB1.out.trans (HB2.out.mono HB1.out.size)⟩,⟨Mx _⟩⟩
 case round=>
  clear HR2 HH2 HD2;obtain⟨i,j,cb,hs,ps,rfl,rfl,hi,hj,HR,HH,HD,HB,HS⟩:=hrel;by_cases hin:i<m;rotate_left
  ·have him:i=m:=by omega
   subst him
   go_wp2_with (go_at_call 26;refine (k26.out _ _ _ _ _ _ HR.out (fun k hk=>(HD.out k).1.trans (HCL.out k hk)) (fun k=>(HD.out k).2.1)).mono ?_;rintro e w9 ⟨v',rfl,ho,hb⟩;have HO:=Mw ho;have HB9:=Mw hb;clear ho hb)
   go_ret2
   have h1:=HB.out.size;exact⟨v',j,cb,ps,rfl,uh HO.out h1,HD.out,HB.out.trans (HB9.out.mono h1)⟩
  obtain⟨ad,x,y,hA,p0,p1,⟨bx1,bx2⟩,hy0,hy1⟩:=HP.out i hin;subst hA;have r0:=(HB.out.cell (World.block_lt_of_cell? _ _ p0)).trans p0;have r1:=(HB.out.cell (World.block_lt_of_cell? _ _ p1)).trans p1;rw [<- Addr.add_add] at r1;replace r1:wr.cell? { block:=(ad.add (i*2)).block,off:=(ad.add (i*2)).off+1 }=some (.int .u8 y):=r1
  go_wp2_with fail
  obtain⟨b,hb,hbn⟩:=Ag x n hn0 (by omega);rw [hb];clear hb;obtain⟨wA,hwA⟩:∃ wA,wA=wr.alloc (.cells #[.int .i64 x,.int .u8 y] 127):=⟨_,rfl⟩;rw [<- hwA];have HBA:=Mw (show Below wr.heap.size wr wA by rw [hwA];exact ai (Below.refl _ _) _)
  have HWA:=Mw (show Blk wA wr.heap.size 127 #[.int .i64 x,.int .u8 y] by rw [hwA];exact Blk.new _ _ _)
  have HRA:=Mw (HR.out.below HBA.out (Mx _));have HHA:=Mw (HH.out.below HBA.out);have HBL:=Mw HH.out.row.lt;clear HR HH hwA;obtain⟨qb',cap',e1,_,_,hcell⟩:=HRA.out.open hn0;injection e1 with e1 _ e3;injection e1 with e1;injection e1 with e1;subst e1 e3;have g0:=hcell b hbn;obtain⟨L,hL⟩:∃ L,(cb b).length=L:=⟨_,rfl⟩;have hL1:0<L/\L<=1000:=by rw [<- hL,(HD.out b).1];exact HCL2.out b hbn
  obtain⟨hL0,hL2⟩:=hL1;rw [hL] at g0;have hbn':(b:Int)<(n:Int):=by omega
  have c0:wA.cell? ⟨wr.heap.size,0,none⟩=some (.int .i64 x):=HWA.out.cell 0;have c1:wA.cell? ⟨wr.heap.size,1,none⟩=some (.int .u8 y):=HWA.out.cell 1;clear hcell
  go_wp2_with fail
  go_quiet (fail)
  obtain⟨at_,hat,hatL⟩:=Ag (x.tdiv n) L hL0 (by omega);rw [hat];clear hat g0 c0 c1;obtain⟨w3,hw3⟩:∃ w3,w3=wA.drewN nq:=⟨_,rfl⟩;rw [<- hw3];have HB3:=Mw (show Below wr.heap.size wr w3 by rw [hw3];exact au HBA.out nq)
  have HS3:=Mw (show wr.heap.size<w3.heap.size by rw [hw3];exact HWA.out.lt)
  have HW3:=Mw (show Blk w3 wr.heap.size 127 #[.int .i64 x,.int .u8 y] by rw [hw3];exact HWA.out)
  have HR3:=Mw (show d9 w3 w.heap.size (.slice (some ⟨qb,0,none⟩) n cap) n cb qs cs from HRA.out.below (B:=w.heap.size) (D:=wA.heap.size) (by rw [hw3];exact au (Below.refl _ _) nq) (Mx _))
  have HH3:=Mw (show eX w3 w.heap.size w1.heap.size n hs ps from HHA.out.keep (by rw [hw3];rfl) fun _ _ _ _=>by rw [hw3];rfl)
  clear hw3 HBA HWA HRA HHA;have HBN:=Mw hbn;have g1:=HH3.out.cell b hbn;have e68:=map_nil (hs b) w3;obtain⟨z,hz⟩:∃ z,(hs b).isNone=z:=⟨_,rfl⟩;rw [hz] at e68
  go_upto_if 68 with fail
  clear e68
  go_cut [] (fun wc=>∃ (mb:Nat) (hs':Nat->Option Nat),hs' b=some mb/\Aside0 (d9 wc w.heap.size (.slice (some ⟨qb,0,none⟩) n cap) n cb qs cs)/\Aside0 (eX wc w.heap.size w1.heap.size n hs' ps)/\Aside0 (Blk wc wr.heap.size 127 #[.int .i64 x,.int .u8 y])/\Aside0 (Below w.heap.size wr wc)/\Aside0 (wr.heap.size<wc.heap.size))
  case first=>
   cases z with
   | true=>
    have hm:hs b=none:=by simpa using hz
    rw [hm] at g1;obtain⟨w4,hw4⟩:∃ w4,w4=w3.alloc (.map #[] 0):=⟨_,rfl⟩;have mk4:(Instr.makeMap 128 none).run Tryz.prog w3=.ok (.map (some w3.heap.size)) w4:=by rw [hw4];exact run_makeMap _ _
    have HB4:=Mw (show Below w3.heap.size w3 w4 by rw [hw4];exact ai (Below.refl _ _) _)
    have HM4:=Mw (show eu w4 w3.heap.size [] by rw [hw4];exact eu.new _)
    have HH4:=Mw (HH3.out.below HB4.out);have f1:=HH4.out.row.frozen b;have g4:=HH4.out.cell b hbn;rw [hm] at g4;have HM:=Mw hm;clear hw4 hz hm
    go_wp2
    go_meet
    case rel=>
     have hT:=af.set w4 w1.heap.size b (.map (some w3.heap.size));have hne:w1.heap.size≠w3.heap.size:=Nat.ne_of_lt HH3.out.row.lt;have h4:=HB3.out.size;have hbw:=HB.out.size;refine⟨w3.heap.size,fun k=>if k=b then some w3.heap.size else hs k,if_pos rfl,⟨(HR3.out.below HB4.out (Mx _)).keep (fun g t cs hg ht=>hT.block g ?_)⟩,⟨HH4.out.setNew HBN.out HM.out HM4.out (by omega) hne fun k mb hk hmb=>?_⟩,⟨(HW3.out.below HB4.out HS3.out).far ?_ _⟩,⟨?_⟩,⟨?_⟩⟩
     ·rintro rfl;have:=hg.symm.trans HH4.out.row;injection this with this;injection this with _ this;subst this;rcases ht with h | h<;>cases h
     ·exact Nat.ne_of_lt (HH3.out.map hk hmb).2.lt
     ·have:=HBL.out;show wr.heap.size≠w1.heap.size;omega
     ·exact (HB3.out.mono hbw).trans ((HB4.out.mono (by omega)).trans (hT.below HH3.out.own))
     rw [hT.size];have:=HB4.out.size;have:=HS3.out;omega
   | false=>
    obtain⟨mb,hm⟩:=Option.ne_none_iff_exists'.1 (show hs b≠none by intro h;rw [h] at hz;cases hz)
    have HM:=Mw hm
    go_wp2
    go_meet
    case rel=>exact⟨mb,hs,HM.out,HR3,HH3,HW3,⟨HB3.out.mono (by have:=HB.out.size;omega)⟩,HS3⟩
  case rest=>
   clear HR3 HH3 HW3 HB3 HS3 g1 hz;obtain⟨mb,hs',hmb,HR5,HH5,HW5,HB5,HS5⟩:=hcut;have HMB:=Mw hmb;have g5:=HH5.out.cell b HBN.out;rw [hmb] at g5;have c1:wc.cell? ⟨wr.heap.size,1,none⟩=some (.int .u8 y):=HW5.out.cell 1;obtain⟨x1,hx1⟩:=(HH5.out.map HBN.out hmb).2.look at_ (by omega);have hlen:=(HH5.out.map HBN.out hmb).2.len 3;obtain⟨z,hz⟩:∃ z,(ps b).length=z:=⟨_,rfl⟩;rw [hz] at hlen;have hzT:z<=T:=by rw [<- hz];exact (HD.out b).2.2.1
   have HB6:=Mw (HB.out.trans HB5.out);have HS6:=Mw (show w2.heap.size<=wc.heap.size by have:=HS.out;have:=HS5.out;omega)
   have HZ:=Mw hz;clear hz hmb;by_cases hy:y=0
   ·subst hy;clear hx1 hlen
    go_wp2_with fail
    go_roundw
    case rel=>exact⟨i+1,j,cb,hs',ps,rfl,by go_num,by omega,by omega,HR5,HH5,HD,HB6,HS6⟩
    case measure=>simp [intOf]<;>omega
   have hy':(y==0)=false:=beq_false_of_ne hy;cases x1 with
   | true=>
    clear hlen
    go_wp2_with fail
    go_roundw
    case rel=>exact⟨i+1,j,cb,hs',ps,rfl,by go_num,by omega,by omega,HR5,HH5,HD,HB6,HS6⟩
    case measure=>simp [intOf]<;>omega
   | false=>
    by_cases hzz:z=T
    ·subst hzz
     go_wp2_with (go_at_call 69;refine (k69.out _).mono ?_;rintro e w6 ⟨rfl,hb6⟩;have HB7:=Mw hb6;clear hb6)
     go_roundw
     case rel=>
      have h1:=HB6.out.size;exact⟨i+1,j,cb,hs',ps,rfl,by go_num,by omega,by omega,⟨HR5.out.below HB7.out (Mx _)⟩,⟨HH5.out.below HB7.out⟩,HD,⟨HB6.out.trans (HB7.out.mono h1)⟩,⟨Nat.le_trans HS6.out HB7.out.size⟩⟩
     case measure=>simp [intOf]<;>omega
    have hzz':((z:Int)==(T:Int))=false:=beq_false_of_ne (by omega)
    go_upto_region 12 with (go_at_call 69;refine (k69.out _).mono ?_;rintro e w6 ⟨rfl,hb6⟩;have HB7:=Mw hb6;clear hb6)
    clear hx1 hlen g5 c1;have HR7:=Mw (HR5.out.below HB7.out (Mx _));have HH7:=Mw (HH5.out.below HB7.out);have HW7:=Mw (HW5.out.below HB7.out HS5.out);have g7:=HH7.out.cell b HBN.out;rw [HMB.out] at g7;obtain⟨w8,p8,hup,hH8,hin8,hsub8,hlen8,hT8⟩:=(HH7.out.map HBN.out HMB.out).2.put at_ (by omega) (by rw [HZ.out];omega)
    have HH8:=Mw hH8;have HIN8:=Mw hin8;have HSUB8:=Mw hsub8;have HT8:=Mw hT8;have HL8:=Mw hlen8;clear hH8 hin8 hsub8 hlen8 hT8;have hml:=(HH7.out.map HBN.out HMB.out);have HR8:=Mw (HR7.out.keep fun g t ys hg _=>HT8.out.block g (hml.2.ne hg));have HHH8:=Mw (HH7.out.turn HBN.out HMB.out HT8.out HH8.out);have HW8:=Mw (HT8.out.blk HW7.out (hml.2.ne HW7.out));have HB8:=Mw (HB6.out.trans ((HB7.out.mono HB6.out.size).trans (HT8.out.below hml.1)));have HS8:=Mw (show w2.heap.size<=w8.heap.size by rw [HT8.out.size];exact Nat.le_trans HS6.out HB7.out.size)
    obtain⟨qb',cap',e1,_,_,hcell⟩:=HR8.out.open hn0;injection e1 with e1 _ e3;injection e1 with e1;injection e1 with e1;subst e1 e3;have r1:=hcell b HBN.out;rw [hL] at r1;obtain⟨_,hLc,⟨zs,hzs⟩,hby⟩:=HR8.out.blk b HBN.out;have r2:=hby at_ (by omega);rw [Nat.zero_add] at r2;have r3:w8.cell? ⟨wr.heap.size,1,none⟩=some (.int .u8 y):=HW8.out.cell 1;have r4:=hzs.frozen at_;obtain⟨q1,hq1⟩:∃ q1,qs b=q1:=⟨_,rfl⟩;obtain⟨a1,ha1⟩:∃ a1,(cb b).getD at_ 0=a1:=⟨_,rfl⟩;rw [hq1] at r1 r2 r4;rw [ha1] at r2;have hatL':(at_:Int)<(L:Int):=by omega
    clear hcell hml hby hzs
    go_wp2_with fail
    go_region
    obtain⟨y8,hy8,hy8l⟩:=JL a1 y;rw [hy8];obtain⟨w9,hw9⟩:∃ w9,w9=(w8.setCell ⟨q1,at_,none⟩ (.int .u8 (y8:Int))).drew:=⟨_,rfl⟩;rw [<- hw9];have HQ:=Mw hq1;have HW9:=Mw hw9;have HLL:=Mw hL;have HZT:=Mw (show z+1<=T by omega);clear r1 r2 r3 r4 hy8 hw9 hq1 ha1
    go_wp2
    go_roundw
    case rel=>
     have hT9:af w8 w9 q1:=by
      rw [HW9.out];exact af.drawn (af.set _ _ _ _) 1
     have hR9:=(HR8.out.put b at_ y8 HBN.out (by rw [HLL.out];exact hatL)).keep (w':=w9) (fun g t ys _ _=>by rw [HW9.out,<- HQ.out];rfl)
     obtain⟨zs,hqb⟩:∃ zs,Blk w8 q1 5 zs:=by obtain⟨_,_,⟨zs,hzs⟩,_⟩:=HR8.out.blk b HBN.out;rw [HQ.out] at hzs;exact⟨zs,hzs⟩
     refine⟨i+1,j+1,_,hs',_,by go_num,by go_num,by omega,by omega,⟨hR9⟩,⟨HHH8.out.keep (hT9.block _ ?_) fun k m hk hm=>hT9.block _ ?_⟩,⟨HD.out.put hy8l HIN8.out HSUB8.out (by have:=HL8.out;rw [HZ.out] at this;have:=HZT.out;omega)⟩,⟨HB8.out.trans (hT9.below ?_)⟩,⟨by rw [hT9.size];exact HS8.out⟩⟩
     ·rintro e;have h1:=HHH8.out.row;rw [e] at h1;have:=hqb.symm.trans h1;injection this with this;injection this with _ this;cases this
     ·exact fun e=>(HHH8.out.map hk hm).2.ne hqb e.symm
     rw [<- HQ.out];exact (HR8.out.blk b HBN.out).1
    case measure=>simp [intOf]<;>omega
end Go.Proofs.YtgccjgpdjkhpdaaGreat.B
