import Derived.OpenShut
import Derived.Deep.SlicePairs
import Derived.Test.YtgccjgpdjkhpdaaGreatVErrors36
import Derived.Test.YtgccjgpdjkhpdaaGreatVErrors41
open Go.Proofs.YtgccjgpdjkhpdaaGreatW.PrintWords.Aside0 renaming mk→Mw
/-! Own texts of this claim, part 42. -/
namespace Go.Proofs.YtgccjgpdjkhpdaaGreat.F
open Go.RowKit Go.Proofs.YtgccjgpdjkhpdaaGreatW.PrintWords Go.Proofs.YtgccjgpdjkhpdaaGreatW.PrintLast Go.Proofs.YtgccjgpdjkhpdaaGreatW.PrintMore
attribute [local go_sem] fB fC fD fE fF fG fH fI
set_option linter.unusedVariables false
set_option linter.unusedSimpArgs false
def pq.f (a0:Int):Option (Int):=some (Int.tmod (wrap64 (a0)) 4)
set_option maxHeartbeats 8000000 in
set_option maxRecDepth 100000 in
theorem pq.calls (a0:Int)(r:Int)(w:World)(h:pq.f a0=some r) :
  Calls Tryz.prog 18 #[.int .u8 a0] w fun e w'=>e=.returned (.int .i64 r)/\aj w w':=by
 have H:(some (Int.tmod (wrap64 (a0)) 4))=some r:=h;clear h;obtain rfl:=Option.some.inj H
 go_enter Tryz.func18,Tryz.ntmps18
 go_wp2
 go_ret
 exact⟨by first | rfl | (simp;done) | (simp [*];done),by repeat (first | exact aj.refl _ | apply aj.step)⟩
def pr.f (a0:Int):Option (Int):=some (Int.tmod (wrap64 (a0)) 8)
set_option maxHeartbeats 8000000 in
set_option maxRecDepth 100000 in
theorem pr.calls (a0:Int)(r:Int)(w:World)(h:pr.f a0=some r) :
  Calls Tryz.prog 20 #[.int .u8 a0] w fun e w'=>e=.returned (.int .i64 r)/\aj w w':=by
 have H:(some (Int.tmod (wrap64 (a0)) 8))=some r:=h;clear h;obtain rfl:=Option.some.inj H
 go_enter Tryz.func20,Tryz.ntmps20
 go_wp2
 go_ret
 exact⟨by first | rfl | (simp;done) | (simp [*];done),by repeat (first | exact aj.refl _ | apply aj.step)⟩
end Go.Proofs.YtgccjgpdjkhpdaaGreat.F
namespace Go.Proofs.YtgccjgpdjkhpdaaGreat.B
open Go.RowKit Go.Proofs.YtgccjgpdjkhpdaaGreatW.PrintWords Go.Proofs.YtgccjgpdjkhpdaaGreatW.PrintLast Go.Proofs.YtgccjgpdjkhpdaaGreatW.PrintMore
set_option linter.unusedVariables false
set_option linter.unusedSimpArgs false
theorem Lc (a:Int)(t:List Int):∃ b,F.mP.f a t=some b:=by
 unfold F.mP.f
 split<;>exact⟨_,rfl⟩
theorem Ld (l:List F.bl):∃ b,Ev (fun k=>F.cQ.f k l) b:=by
 by_cases hl:(l.length:Int)>2147483647
 ·exact⟨false,Ev.congr (fun k=>by rw [F.cQ.f,if_pos hl]) (Ev.now _)⟩
 have H:∀ (d i:Nat),i+d=l.length->∃ b,Ev (fun k=>F.cQ.l0 k l (l.length:Int) (i:Int)) b:=by
  intro d
  induction d with
  | zero=>
   intro i hi;refine⟨true,Ev.step (f:=fun _=>some true) (fun k=>?_) (Ev.now _)⟩;rw [F.cQ.l0,if_neg (by omega)]
  | succ d ih=>
   intro i hi;obtain⟨b,hb⟩:=Lc ((F.cC l (i:Int)).f0) ((F.cC l (i:Int)).f1);cases b with
   | false=>
    refine⟨false,Ev.step (f:=fun _=>some false) (fun k=>?_) (Ev.now _)⟩;rw [F.cQ.l0,if_pos (by omega),if_pos (by omega),if_pos (by omega),hb];rfl
   | true=>
    obtain⟨r,hr⟩:=ih (i+1) (by omega);refine⟨r,Ev.step (fun k=>?_) hr⟩;rw [F.cQ.l0,if_pos (by omega),if_pos (by omega),if_pos (by omega),hb,Option.bind_some,if_pos rfl,wR i (by omega)]
 obtain⟨b,hb⟩:=H l.length 0 (by omega);exact⟨b,Ev.congr (fun k=>by rw [F.cQ.f,if_neg hl];rfl) hb⟩
theorem Le (a:Nat)(h:a<256):F.pq.f (a:Int)=some ((a%4:Nat):Int):=by
 unfold F.pq.f;have e1:wrap64 (a:Int)=(a:Int):=by unfold wrap64;omega
 rw [e1,Int.tmod_eq_emod_of_nonneg (by omega)];rfl
theorem Lf (a:Nat)(h:a<256):F.pr.f (a:Int)=some ((a%8:Nat):Int):=by
 unfold F.pr.f;have e1:wrap64 (a:Int)=(a:Int):=by unfold wrap64;omega
 rw [e1,Int.tmod_eq_emod_of_nonneg (by omega)];rfl
theorem AE (md x:Int)(hx:0<=x/\x<=255):32<=bX md x/\bX md x<=126:=by
 unfold bX
 split
 ·omega
 split
 rotate_left
 ·omega
 have:=zg ⟨(x%45).toNat,by omega⟩;simp only at this;omega
theorem Lg (long:Nat)(s:F.bl)(v:Nat)(hs:o9 s)(hl:long<=200):lh (cV long s) v/\(cV long s).f1.all lX=true:=by
 have hmem:∀ y∈(cV long s).f1,∃ x,(0<=x/\x<=255)/\y=bX (iQ s.f0) x:=by
  intro y hy;obtain⟨x,hx,rfl⟩:=List.mem_map.1 hy;exact⟨x,hs.2 x (List.mem_of_mem_take hx),rfl⟩
 have hlen:(cV long s).f1.length<=200:=by
  unfold cV;rw [List.length_map,List.length_take];omega
 refine⟨⟨um _,?_,?_,?_,?_,?_⟩,?_⟩
 ·intro hm y hy;obtain⟨x,hx,rfl⟩:=hmem y hy;have hm:iQ s.f0=1:=hm;unfold bX jV;rw [if_pos hm];omega
 ·intro hm y hy;obtain⟨x,hx,rfl⟩:=hmem y hy;have hm:iQ s.f0=2:=hm;unfold bX;rw [if_neg (by omega),if_pos hm];have h1:(x%45).toNat<45:=by omega
  rw [zd ⟨_,h1⟩];exact h1
 ·intro y hy;obtain⟨x,hx,rfl⟩:=hmem y hy;have:=AE (iQ s.f0) x hx;omega
 ·have h8:8<=aw (cV long s).f0.toNat v:=by
   have:(cV long s).f0=1\/(cV long s).f0=2\/(cV long s).f0=4:=um _;unfold aw;rcases this with e | e | e<;>rw [e]<;>simp<;>(repeat' split)<;>omega
  have:=Nat.pow_le_pow_right (show 0<2 by decide) h8;omega
 ·omega
 rw [List.all_eq_true];intro y hy;obtain⟨x,hx,rfl⟩:=hmem y hy;have:=AE (iQ s.f0) x hx;unfold lX;exact decide_eq_true this
theorem cP.reads {w:World}{B g n:Nat}{q cp:Nat->Nat}{cf:Nat->Nat->Bool}(h:cP w B g n q cp cf)(hn:n<=1000):lx w (some ⟨g,0,none⟩) (aK n cf n):=by
 have hl:(aK n cf n).length=n:=gN n cf n;unfold lx;rw [hl];refine⟨hl,by omega,fun _=>⟨_,rfl,fun j p hj=>?_⟩⟩;have hjl:j<n:=by
  have:=(List.getElem?_eq_some_iff.1 hj).1
  rwa [hl] at this
 rw [zT n cf j hjl] at hj;obtain rfl:=Option.some.inj hj;obtain⟨k1,k2,k3,_,k5⟩:=h.row j hjl;have hrl:(ie n cf j).length=n:=by simp [ie]
 refine⟨[.slice (some ⟨q j,0,none⟩) n (cp j)],rfl,⟨some ⟨q j,0,none⟩,cp j,by rw [hrl],by rw [hrl];exact k3,?_⟩,?_⟩
 rotate_left
 ·intro i u hu;cases i with
  | zero=>
   obtain rfl:Value.slice (some ⟨q j,0,none⟩) n (cp j)=u:=by simpa using hu
   show w.cell? (Addr.add ⟨g,0,none⟩ (j*1+0))=_;rw [uf,Nat.zero_add,Nat.mul_one,Nat.add_zero];exact k1
  | succ i=>simp at hu
 refine Kd.sE (enc:=Value.bool) (d:=false) (h1:=fun _=>rfl) ⟨by rw [hrl],by rw [hrl];omega,fun hp=>⟨_,rfl,fun i hi=>?_⟩⟩
 rw [hrl] at hi;rw [uf,Nat.zero_add,k5 i hi,List.getD_eq_getElem?_getD];unfold ie;rw [List.getElem?_map,List.getElem?_range hi];rfl
theorem AF (c d c2 e:Nat)(cb:Nat->List Nat)(h:∀ k,ab 8 (cb k)):ab 8 (gM c d c2 e fun k i=>(cb k).getD i 0):=by
 have h8:∀ k i,(cb k).getD i 0<256:=fun k i=>aF (h k) i
 intro x hx;rw [sS] at hx;simp only [List.mem_append,List.mem_flatMap,List.mem_map] at hx;rcases hx with (⟨_,_,_,_,rfl⟩ | ⟨_,_,rfl⟩) | ⟨_,_,_,_,rfl⟩
 ·exact h8 _ _
 ·exact h8 _ _
 exact h8 _ _
theorem Lh (l:List Nat):(l.filter fun d=>!(d==0)).length=((List.range l.length).filter fun i=>!(l.getD i 0==0)).length:=by
 have h:(List.range l.length).map (fun i=>l.getD i 0)=l:=uk l _ rfl
 calc (l.filter fun d=>!(d==0)).length=(((List.range l.length).map (fun i=>l.getD i 0)).filter fun d=>!(d==0)).length:=by rw [h]
  _=_:=by rw [List.filter_map,List.length_map];rfl
theorem Li {T:Nat}{code cb ps:Nat->List Nat}(h:lq T code cb ps)(j:Nat):((Po.diff (cb j) (code j)).filter fun d=>!(d==0)).length<=T:=by
 obtain⟨h1,_,h3,h4⟩:=h j;rw [Lh,Po.diff_len _ _ h1];refine Nat.le_trans (rV _ _ (fun i=>i) (ps j) (fun i k _ _ e=>e) fun i hi hf=>?_) h3;rw [Po.diff_at _ _ h1 i hi] at hf;by_cases hm:i∈ps j
 ·exact hm
 rw [h4 i hm,Nat.xor_self] at hf;cases hf
theorem Lj (v l m T:Nat)(ws:List Nat)(cb ps:Nat->List Nat)(cf cf2:Nat->Nat->Bool)(Ls:Nat->List (Nat×Nat))(st:PS)(hv:1<=v/\v<=40)(hl:l<4)(hm:m<8)(hn:ws.length=cz v l)(hw:ab 8 ws)
  (hD:lq T (eV (av v l) (aN v l) (aW v l) ws) cb ps) (hTe:2*T<=aW v l)
  (hcf:∀ r c:Nat,r<17+4*v->c<17+4*v->kF ((lV l m:Nat):Int) v r c (cf r c))
  (hT:gF v (dC (gD (aZ (gM (av v l) (aN v l) (aE v l) (aW v l) fun k i=>(cb k).getD i 0)) m) (dW (17+4*v) (bM v (bA v))) 0 cf) cf2 Ls) (hL:∀ k,(Ls k).length<=3)
  (hrd:Rd ws v ⟨0,[],[],false,-1,-1⟩ (some st)) :
  nI v (8*l+m) (fY (aK (17+4*v) cf2 (17+4*v))) (nT v l ws) st:=by
 obtain⟨xs,hxs⟩:∃ xs,(gM (av v l) (aN v l) (aE v l) (aW v l) fun k i=>(cb k).getD i 0)=xs:=⟨_,rfl⟩;have hxl:xs.length=bW v/8:=by rw [<- hxs,sT,(eD v l hv hl).tot]
 have hx8:ab 8 xs:=by rw [<- hxs];exact AF _ _ _ _ cb fun k=>(hD k).2.1
 have hbl:∀ k,k<av v l+aE v l->cB (av v l) (aN v l) (aE v l) (aW v l) xs k=cb k:=fun k hk=>by
  rw [<- hxs,wJ _ _ _ _ _ k hk];refine uk _ _ ?_;rw [(hD k).1];exact zS v l ws hv hl hn k hk
 rw [hxs] at hT;have e1:(8*l+m)/8=l:=by omega
 have e2:(8*l+m)%8=m:=by omega
 obtain⟨cf1,hc1⟩:∃ cf1,dC (gD (aZ xs) m) (dW (17+4*v) (bM v (bA v))) 0 cf=cf1:=⟨_,rfl⟩;have hP:=(Jy (lV l m) v (gD (aZ xs) m) cf hv (Dc (lV l m) v hv (uj l m) cf hcf)).congr (h:=fY (aK (17+4*v) (dC (gD (aZ xs) m) (dW (17+4*v) (bM v (bA v))) 0 cf) (17+4*v))) (fun x y hx hy=>(sX _ _ x y hx hy).symm) hv.1;rw [hc1] at hT hP;have h0:∀ x y,x<17+4*v->y<17+4*v->fY (aK (17+4*v) cf1 (17+4*v)) x y=cf1 y x:=fun x y hx hy=>sX _ _ x y hx hy
 have h1:∀ x y,x<17+4*v->y<17+4*v->fY (aK (17+4*v) cf2 (17+4*v)) x y=cf2 y x:=fun x y hx hy=>sX _ _ x y hx hy
 have hW:kH v m (fY (aK (17+4*v) cf2 (17+4*v)))=xs:=by
  refine Jt v m _ _ hv hxl hx8 ?_;intro i p hp;have hb:=zZ _ _ p (List.mem_of_getElem? hp) (by omega) (by omega);have hfp:=(rE _ _ _ _ _ _ (List.mem_of_getElem? hp)).2.2.2;rw [JF hv hT h0 h1 p.2 p.1 hb.2 hb.1 hfp,h0 _ _ hb.2 hb.1,<- hc1,G8 _ (dW (17+4*v) (bM v (bA v))) 0 cf (G7 _ _ _ _ _) i p hp,Nat.zero_add];rfl
 refine⟨hv,fun h7=>?_,by omega,?_,?_,?_⟩
 ·have:=JG hv hT hL h0 h1 h7
  rwa [Da _ v hv _ hP h7] at this
 ·have f1:=JH hv hT hL h0 h1;have f2:=JI hv hT hL h0 h1;rw [C8 _ v hv _ hP (uj l m)] at f1;rw [C9 _ v hv _ hP (uj l m)] at f2;rw [JY (8*l+m) _ _ (by omega) f1 f2,JZ ⟨8*l+m,by omega⟩]
 rotate_left
 ·rw [e1,z9 v l ws hv hl hn];exact hrd
 rw [e1,e2,hW];refine⟨fun j hj=>?_,JB v l ws hv hl hn hw,fun j hj=>?_⟩
 ·rw [hbl j hj];exact (hD j).2.1
 rw [hbl j hj,rU v l ws hv hl hn j hj];have:=Li hD j;omega
theorem Lk (w:World)(B g cap v l m T:Nat)(q cp:Nat->Nat)(ws:List Nat)(cb ps:Nat->List Nat)(cf cf2:Nat->Nat->Bool)(Ls:Nat->List (Nat×Nat))(st:PS)(hcap:17+4*v<=cap)
  (hbr:cP w B g (17+4*v) q cp cf2) (hv:1<=v/\v<=40) (hl:l<4) (hm:m<8) (hn:ws.length=cz v l) (hw:ab 8 ws)
  (hD:lq T (eV (av v l) (aN v l) (aW v l) ws) cb ps) (hTe:2*T<=aW v l)
  (hcf:∀ r c:Nat,r<17+4*v->c<17+4*v->kF ((lV l m:Nat):Int) v r c (cf r c))
  (hT:gF v (dC (gD (aZ (gM (av v l) (aN v l) (aE v l) (aW v l) fun k i=>(cb k).getD i 0)) m) (dW (17+4*v) (bM v (bA v))) 0 cf) cf2 Ls) (hL:∀ k,(Ls k).length<=3)
  (hrd:Rd ws v ⟨0,[],[],false,-1,-1⟩ (some st)) :
  Calls Tryz.prog 12 #[.slice (some ⟨g,0,none⟩) (17+4*v) cap] w fun e w'=>∃ x,e=.returned (.tuple #[x,.bool true])/\fT w' w.heap.size l ws st x/\Below w.heap.size w w':=by
 have S:=Lj v l m T ws cb ps cf cf2 Ls st hv hl hm hn hw hD hTe hcf hT hL hrd;have e1:(8*l+m)/8=l:=by omega
 have k:=GC w v (8*l+m) (some ⟨g,0,none⟩) cap _ st _ S (hbr.reads (by omega)) (by rw [gN];exact hcap) (C7 _ _ (by omega) (by omega))
 rw [e1,z9 v l ws hv hl hn] at k;exact k
theorem nU.below {w w':World}{A:Option Addr}{m:Nat}(h:nU w A m)(hb:Below w.heap.size w w'):nU w' A m:=fun i hi=>by
 obtain⟨ad,x,y,h1,h2,h3,h4⟩:=h i hi;exact⟨ad,x,y,h1,(hb.cell (World.block_lt_of_cell? _ _ h2)).trans h2,(hb.cell (World.block_lt_of_cell? _ _ h3)).trans h3,h4⟩
set_option maxHeartbeats 8000000 in
set_option maxRecDepth 8000 in
theorem Ll (w:World)(A Aw:Option Addr)(c mw cw:Nat)(l:List F.bl)(a b m:Nat)(aa:Nat->Nat->Nat)(hS:Kd.C F.dU w A l.length l)(hc:l.length<=c)(hin:∀ s∈l,o9 s)(ha:a<256)(hb:b<256)(hm:m<256)(hP:nU w Aw mw)(hcw:mw<=cw)(haa:∀ k j,aa k j<256) :
  Calls Tryz.prog 8 #[.slice A l.length c,.int .u8 (a:Int),.int .u8 (b:Int),.int .u8 (m:Int),.slice Aw mw cw,mN aa] w fun e w'=>e=.returned (.bool true)/\Below w.heap.size w w':=by
 obtain⟨ft,hft⟩:=Ld l;obtain⟨k,hk⟩:=hft.rounds;have C16:=Mw (fun (W:World) (hb:Below w.heap.size w W)=>F.cQ.calls k A c l ft W (Kd.bB hS hb) hc hk);have HS:=Mw hS;have HIN:=Mw hin;have HP:=Mw hP;have HAA:=Mw haa;clear hft hk;obtain⟨C,hC⟩:∃ C,lu aa=C:=⟨_,rfl⟩;have HC:=Mw hC;unfold mN;rw [hC];obtain⟨w0,hw0⟩:∃ w0,w0=w.alloc (.cells C 64):=⟨_,rfl⟩;have HW0:=Mw hw0;have HB0:=Mw (show Below w.heap.size w w0 by rw [hw0];exact ai (Below.refl _ _) _)
 have HK0:=Mw (show Blk w0 w.heap.size 64 C by rw [hw0];exact Blk.new _ _ _)
 clear hw0 hC hP haa;cases ft with
 | false=>
  clear hS hc hin
  go_enter Tryz.func8,Tryz.ntmps8
  go_wp2_with fail
  rw [<- HW0.out];refine (C16.out w0 HB0.out).mono ?_;rintro e w1 ⟨rfl,hd⟩;have HB1:=Mw (HB0.out.trans (hd.mono HB0.out.size));clear hd
  go_wp2_with fail
  go_ret
  exact⟨rfl,HB1.out⟩
 | true=>
  by_cases hbig:2147483647<mw
  ·have hbig':(2147483647:Int)<(mw:Int):=by omega
   clear hS hc hin
   go_enter Tryz.func8,Tryz.ntmps8
   go_wp2_with fail
   rw [<- HW0.out];refine (C16.out w0 HB0.out).mono ?_;rintro e w1 ⟨rfl,hd⟩;have HB1:=Mw (HB0.out.trans (hd.mono HB0.out.size));clear hd
   go_wp2_with fail
   go_ret
   exact⟨rfl,HB1.out⟩
  have hbig':¬ (2147483647:Int)<(mw:Int):=by omega
  have hmw:mw<=2147483647:=by omega
  have c11:=fun W=>F.pp.calls (a:Int) _ W (De a ha)
  have c18:=fun W=>F.pq.calls (b:Int) _ W (Le b hb)
  have c20:=fun W=>F.pr.calls (m:Int) _ W (Lf m hm)
  obtain⟨v,hv⟩:∃ v,1+a%40=v:=⟨_,rfl⟩;obtain⟨lv,hlv⟩:∃ lv,b%4=lv:=⟨_,rfl⟩;obtain⟨mk,hmk⟩:∃ mk,m%8=mk:=⟨_,rfl⟩;rw [hv] at c11;rw [hlv] at c18;rw [hmk] at c20;have hv1:1<=v/\v<=40:=by omega
  have hl4:lv<4:=by omega
  have hm8:mk<8:=by omega
  have C11:=Mw c11;have C18:=Mw c18;have C20:=Mw c20;obtain⟨segs,hsegs⟩:∃ segs,nV 3 150 l=segs:=⟨_,rfl⟩;have hok:∀ s∈segs,lh s v/\s.f1.all lX=true:=by
   intro s hs;rw [<- hsegs] at hs;obtain⟨s0,hs0,rfl⟩:=List.mem_map.1 hs;exact Lg 150 s0 v (hin s0 (List.mem_of_mem_take hs0)) (by omega)
  have hsl:segs.length<=3:=by rw [<- hsegs];unfold nV;rw [List.length_map,List.length_take];omega
  have C17:=Mw (fun (W:World) (hb2:Below w.heap.size w W)=>by
   have h:=JQ W A c l.length 3 150 l (Kd.bB hS hb2) rfl hin (by omega) (by omega);rw [hsegs] at h;exact h)
  have HOK:=Mw hok;have HASC:=Mw (show jI segs=true by unfold jI;rw [List.all_eq_true];exact fun s hs=>(hok s hs).2)
  have HBD:=Mw (show ∀ s∈segs,s.f1.length<=10000/\∀ x∈s.f1,0<=x/\x<=255 from fun s hs=>⟨by have:=(hok s hs).1.short;omega,(hok s hs).1.by_⟩)
  obtain⟨sn,hsn⟩:∃ sn,segs.length=sn:=⟨_,rfl⟩;have HSN:=Mw hsn;have hsl':sn<=3:=by omega
  clear hS hc hin hv hlv hmk c11 c18 c20 hsegs hok hsn ha hb hm hbig
  go_enter Tryz.func8,Tryz.ntmps8
  go_wp2_with fail
  rw [<- HW0.out];refine (C16.out w0 HB0.out).mono ?_;rintro e w1 ⟨rfl,hd⟩;have HB1:=Mw (HB0.out.trans (hd.mono HB0.out.size));have HK1:=Mw (Blk.below HK0.out (hd.mono (Nat.le_refl _)) HK0.out.lt);clear hd HK0
  go_wp2_with fail
  refine (C17.out w1 HB1.out).mono ?_;rintro e w2 ⟨v2,rfl,hR2,hb2⟩;obtain⟨A2,c2,rfl,hc2,hC2⟩:=Kd.kB hR2;rw [HSN.out] at hc2 hC2 ⊢;have HB2:=Mw (HB1.out.trans (hb2.mono HB1.out.size));have HC2:=Mw hC2;have HK2:=Mw (Blk.below HK1.out hb2 HK1.out.lt);clear hR2 hb2 hC2 HK1
  go_wp2_with fail
  refine (C11.out w2).mono ?_;rintro e w3 ⟨rfl,hd3⟩;have HB3:=Mw (HB2.out.trans (hd3.below.mono HB2.out.size));have HC3:=Mw (Kd.bB HC2.out hd3.below);have HK3:=Mw (Blk.below HK2.out hd3.below HK2.out.lt);clear hd3 HK2
  go_wp2_with fail
  refine (C18.out w3).mono ?_;rintro e w4 ⟨rfl,hd4⟩;have HB4:=Mw (HB3.out.trans (hd4.below.mono HB3.out.size));have HC4:=Mw (Kd.bB HC3.out hd4.below);have HK4:=Mw (Blk.below HK3.out hd4.below HK3.out.lt);clear hd4 HK3;by_cases hfit:(cO (segs.map bI) v).length<=8*cz v lv;rotate_left
  ·have k32:=Jr w4 A2 c2 sn v lv segs HC4.out HSN.out hv1 hl4 (fun s hs=>(HOK.out s hs).1) (by omega) hfit;clear hfit HOK HASC HBD
   go_wp2_with fail
   refine k32.mono ?_;rintro e w6 ⟨rfl,hb6⟩;have HB6:=Mw (HB4.out.trans (hb6.mono HB4.out.size));clear hb6
   go_wp2_with fail
   go_ret
   exact⟨rfl,HB6.out⟩
  obtain⟨cf,hcf,hpat⟩:=CU _ (lv:Int) (mk:Int) (Jv lv mk hl4 hm8) v hv1;obtain⟨p,hrd⟩:=JD v (cz v lv) (segs.map bI) (fun s hs=>by obtain⟨s0,hs0,rfl⟩:=List.mem_map.1 hs;exact (HOK.out s0 hs0).1.ok) hfit
  have hlen:=Iw (cO (segs.map bI) v) (cz v lv) hfit;have hlt:=Ix (cO (segs.map bI) v) (cz v lv);obtain⟨st,hst⟩:∃ st,st=PS.mk p (kY false (segs.map bI)) (la (segs.map bI)) false (-1) (-1):=⟨_,rfl⟩;rw [<- hst] at hrd;have HTX:=Mw (show st.out=fX segs by rw [hst];exact KZ segs)
  have HSG:=Mw (show st.segs=cZ segs by rw [hst];exact KY segs (fun s hs=>(HOK.out s hs).1.mode))
  have k32:=ID w4 A2 c2 sn v lv segs HC4.out HSN.out hv1 hl4 (fun s hs=>(HOK.out s hs).1) (by omega) hfit;obtain⟨ws,hws⟩:∃ ws,jc (cO (segs.map bI) v) (cz v lv)=ws:=⟨_,rfl⟩;rw [hws] at hrd hlen hlt k32;have hdp:=z7 v lv hv1 hl4;have hrp:=Jo v hv1;have hTe:=(Af v lv hv1 hl4).1;have K33:=Mw (fun (W:World) (q cN:Nat) (h1:dZ W q 0 ws) (h2:q<W.heap.size) (h3:cz v lv<=cN) (hb:Below w.heap.size w W)=>JM W v lv q (cz v lv) cN mw cw Aw ws hv1 hl4 h1 h2 hlen rfl hlt h3 (HP.out.below hb) hmw hcw);have K29:=Mw (fun (xs:List Nat) (W:World) (q cN:Nat) (h1:dZ W q 0 xs) (h2:q<W.heap.size) (h3:xs.length=bW v/8) (h4:ab 8 xs)=>Jb W q (bW v/8) cN xs h1 h2 h3 (by omega) h4);have K28:=Mw (fun (xs:List Nat) (W:World) (qb cb:Nat) (h3:(aZ xs).length=8*(bW v/8)) h1 h2=>Jn W v lv mk qb (8*(bW v/8)) cb (aZ xs) cf hv1 hm8 h3 h1 h2 hpat);have K34:=Mw (fun (W:World) (B g cap:Nat) (q cp:Nat->Nat) (cf1:Nat->Nat->Bool) (h1:cP W B g (17+4*v) q cp cf1) (h2:17+4*v<=cap) (h3:B<=W.heap.size)=>JO W B g (17+4*v) cap v q cp cf1 aa rfl hv1 h1 h2 HAA.out h3);have C12:=Mw (fun (W:World) (B g cap:Nat) (q cp:Nat->Nat) (cb ps:Nat->List Nat) (cf2:Nat->Nat->Bool) (Ls:Nat->List (Nat×Nat)) (h1:17+4*v<=cap) (h2:cP W B g (17+4*v) q cp cf2) hD hT hL=>Lk W B g cap v lv mk (lp v lv) q cp ws cb ps cf cf2 Ls st h1 h2 hv1 hl4 hm8 hlen hlt hD hTe hcf hT hL hrd);have C21:=Mw (fun (W:World) (A':Option Addr) (c' base:Nat) (d:Value) (h1:fT W base lv ws st d) (h2:Kd.C F.dU W A' sn segs)=>Lb W A' c' sn lv base segs ws st d h1 h2 HSN.out HBD.out (by omega) hl4 HTX.out HSG.out HASC.out);have MX:=Mw (fun (cb:Nat->List Nat)=>(sT (av v lv) (aN v lv) (aE v lv) (aW v lv) fun k i=>(cb k).getD i 0).trans (eD v lv hv1 hl4).tot);clear hcf hpat hrd hlen hlt hst hws hfit HTX HSG HOK HASC HBD hTe
  go_wp2_with fail
  refine k32.mono ?_;rintro e w5 ⟨v5,rfl,ho5,hb5⟩;obtain⟨q5,c5,rfl,hq5,hc5,⟨cs5,hk5⟩,hby5,_⟩:=ug ho5 hdp.1;have HB5:=Mw (HB4.out.trans (hb5.mono HB4.out.size));have HC5:=Mw (Kd.bB HC4.out hb5);have HK5:=Mw (Blk.below HK4.out hb5 HK4.out.lt);have k33:=K33.out w5 q5 c5 hby5 hk5.lt hc5 HB5.out;clear ho5 hb5 hby5 hk5 HK4 HC4 k32
  go_wp2_with fail
  refine k33.mono ?_;rintro e w6 ⟨v6,t6,cb,ps,rfl,ho6,hD6,hb6⟩;have hxl:=MX.out cb;have hx8:=AF (av v lv) (aN v lv) (aE v lv) (aW v lv) cb fun k=>(hD6 k).2.1
  have C12':=Mw (fun (W:World) (B g cap:Nat) (q cp:Nat->Nat) (cf2:Nat->Nat->Bool) (Ls:Nat->List (Nat×Nat)) h1 h2=>C12.out W B g cap q cp cb ps cf2 Ls h1 h2 hD6);obtain⟨xs,hxs⟩:∃ xs,(gM (av v lv) (aN v lv) (aE v lv) (aW v lv) fun k i=>(cb k).getD i 0)=xs:=⟨_,rfl⟩;rw [hxs] at ho6 hxl hx8 C12';obtain⟨q6,c6,rfl,hq6,hc6,⟨cs6,hk6⟩,hby6,_⟩:=ug ho6 hrp.1;have HB6:=Mw (HB5.out.trans (hb6.mono HB5.out.size));have HC6:=Mw (Kd.bB HC5.out hb6);have HK6:=Mw (Blk.below HK5.out hb6 HK5.out.lt);have hsb:=mJ xs;rw [hxl] at hsb;have k29:=K29.out xs w6 q6 c6 hby6 hk6.lt hxl hx8;have HSB:=Mw hsb;clear ho6 hb6 hby6 hk6 HK5 HC5 k33 hsb hD6 hxs hx8 hxl
  go_wp2_with fail
  refine k29.mono ?_;rintro e w7 ⟨v7,rfl,ho7,hb7⟩;have HB7:=Mw (HB6.out.trans (hb7.mono HB6.out.size));have HC7:=Mw (Kd.bB HC6.out hb7);have HK7:=Mw (Blk.below HK6.out hb7 HK6.out.lt);obtain⟨q7,c7,rfl,hq7,hbits⟩:=Jq ho7 HSB.out (by omega);have HQ7:=Mw hq7;have HBT:=Mw hbits;clear ho7 hb7 HK6 HC6 k29 hbits
  go_wp2_with fail
  refine (C20.out w7).mono ?_;rintro e w8 ⟨rfl,hd8⟩;have HB8:=Mw (HB7.out.trans (hd8.below.mono HB7.out.size));have HC8:=Mw (Kd.bB HC7.out hd8.below);have HK8:=Mw (Blk.below HK7.out hd8.below HK7.out.lt);have k28:=K28.out xs w8 q7 c7 HSB.out (Nat.lt_of_lt_of_le HQ7.out hd8.below.size) (fun i hi=>(hd8.below.cell (p:=⟨q7,i,none⟩) HQ7.out).trans (HBT.out i hi));clear hd8 HK7 HC7 HBT
  go_wp2_with fail
  refine k28.mono ?_;rintro e w9 ⟨g9,cap9,q9,cp9,rfl,hcap9,hbr9,hb9⟩;have HB9:=Mw (HB8.out.trans (hb9.mono HB8.out.size));have HL9:=Mw (show Below w8.heap.size w8 w9 from hb9);have HK9:=Mw (Blk.below HK8.out hb9 HK8.out.lt);have hcap9':=hcap9.1;have k34:=K34.out w9 w8.heap.size g9 cap9 q9 cp9 _ hbr9 hcap9' hb9.size;unfold mN at k34;rw [HC.out] at k34;clear hb9 hbr9 HK8 k28 hcap9;obtain⟨N,hN⟩:∃ N,17+4*v=N:=⟨_,rfl⟩;rw [hN] at k34 C12' hcap9' ⊢;obtain⟨md,hmd⟩:∃ md,dC (gD (aZ xs) mk) (dW N (bM v (bA v))) 0 cf=md:=⟨_,rfl⟩;rw [hmd] at k34 C12';clear hN hmd;have l64:=HK9.out;rw [<- HC.out] at l64 k34;unfold lu at l64 k34;have l0:=l64.cell 0;have l1:=l64.cell 1;have l2:=l64.cell 2;have l3:=l64.cell 3;have l4:=l64.cell 4;have l5:=l64.cell 5;have l6:=l64.cell 6;have l7:=l64.cell 7;have l8:=l64.cell 8;have l9:=l64.cell 9;have l10:=l64.cell 10;have l11:=l64.cell 11;clear l64
  go_wp2_with fail
  refine k34.mono ?_;rintro e w10 ⟨cf2,Ls,rfl,hbr10,hT10,hL10,hb10⟩;have HL10:=Mw (show Below w8.heap.size w8 w10 from HL9.out.trans hb10);have HB10:=Mw (HB8.out.trans (HL10.out.mono HB8.out.size));have HC10:=Mw (Kd.bB HC8.out HL10.out);have k12:=C12'.out w10 w8.heap.size g9 cap9 q9 cp9 cf2 Ls hcap9' hbr10 hT10 hL10;clear hbr10 hT10 hL10 hb10 k34 l0 l1 l2 l3 l4 l5 l6 l7 l8 l9 l10 l11 HC8
  go_wp2_with fail
  refine k12.mono ?_;rintro e w11 ⟨d,rfl,hd11,hb11⟩;have HB11:=Mw (HB10.out.trans (hb11.mono HB10.out.size));have HC11:=Mw (Kd.bB HC10.out hb11);obtain⟨Ar,cr,As,cs,hdv,h1,h2⟩:=hd11;obtain⟨t,ht⟩:∃ t,strOfNums st.out=t:=⟨_,rfl⟩;obtain⟨nr,hnr⟩:∃ nr,ws.length=nr:=⟨_,rfl⟩;obtain⟨ns,hns⟩:∃ ns,st.segs.length=ns:=⟨_,rfl⟩;obtain⟨md,hmd⟩:∃ md:Int,(if st.fc then 3 else 1)=md:=⟨_,rfl⟩;obtain⟨sq,hsq⟩:∃ sq,st.sq=sq:=⟨_,rfl⟩;obtain⟨par,hpar⟩:∃ par,st.par=par:=⟨_,rfl⟩;obtain⟨nm,hnm⟩:∃ nm,ip lv=nm:=⟨_,rfl⟩;have HD11:=Mw (show fT w11 w10.heap.size lv ws st d from ⟨Ar,cr,As,cs,hdv,h1,h2⟩);rw [ht,hnr,hns,hmd,hsq,hpar,hnm] at hdv;subst hdv;obtain⟨w12,hw12⟩:∃ w12,w12=w11.alloc (.cells #[.string t,.slice Ar nr cr,.slice As ns cs,.string nm,.int .i64 0,.int .i64 sq,.int .i64 par,.int .i64 md] 29):=⟨_,rfl⟩;have HW12:=Mw hw12;have HB12:=Mw (show Below w.heap.size w w12 by rw [hw12];exact HB11.out.alloc HB11.out.size _)
  have HL12:=Mw (show Below w11.heap.size w11 w12 by rw [hw12];exact ai (Below.refl _ _) _)
  have HK12:=Mw (show Blk w12 w11.heap.size 29 #[.string t,.slice Ar nr cr,.slice As ns cs,.string nm,.int .i64 0,.int .i64 sq,.int .i64 par,.int .i64 md] by rw [hw12];exact Blk.new _ _ _)
  have k21:=C21.out w12 A2 c2 _ _ (HD11.out.below HL12.out) (Kd.bB HC11.out HL12.out);clear hw12 h1 h2 ht hnr hns hmd hsq hpar hnm hb11 k12 HC10 HC11
  go_wp2_with fail
  rw [<- HW12.out];have e0:=HK12.out.cell 0;have e1:=HK12.out.cell 1;have e2:=HK12.out.cell 2;have e3:=HK12.out.cell 3;have e4:=HK12.out.cell 4;have e5:=HK12.out.cell 5;have e6:=HK12.out.cell 6;have e7:=HK12.out.cell 7
  go_wp2_with fail
  refine k21.mono ?_;rintro e w13 ⟨rfl,hb13⟩;have HB13:=Mw (HB12.out.trans (hb13.mono HB12.out.size));clear e0 e1 e2 e3 e4 e5 e6 e7 hb13
  go_wp2_with fail
  go_ret
  exact⟨rfl,HB13.out⟩
end Go.Proofs.YtgccjgpdjkhpdaaGreat.B
namespace Go.Proofs.YtgccjgpdjkhpdaaGreat.B
open Go.RowKit
set_option linter.unusedVariables false
set_option linter.unusedSimpArgs false
theorem Lm {H:Type}{enc:TypeId×Value->H}{P:Program}{w:World}{base:Nat}{iW:Bool}{t e:TypeId}{f0 f1:Field}{a:Option Addr}{len cap:Nat}{x:DataW H×List MemPlace}
  (ht:P.underlying t=some (.slice e)) (he:P.underlying e=some (.struct #[f0,f1])) (ce:P.cellsOf e=2) (o0:f0.offset=0) (o1:f1.offset=1)
  (u0:P.underlying f0.type=some (.int .i64)) (u1:P.underlying f1.type=some (.int .u8)) (c0:P.cellsOf f0.type=1) (c1:P.cellsOf f1.type=1)
  (h:∃ fuel,DataW.trod enc P w base (fun _=>true) iW fuel t [.slice a len cap]=some x):nU w a len/\len<=cap:=by
 obtain⟨fuel,h⟩:=h;rcases Go.Deep.open_slice_pairs ht he ce o0 o1 c0 c1 h with⟨hcs,_⟩ | ⟨ad,l,c,m,n,V0,V1,D0,D1,P0,P1,hcs,_,hl,hm,hmm,_,hx⟩
 ·simp at hcs;obtain⟨rfl,rfl,rfl⟩:=hcs;exact⟨fun i hi=>absurd hi (Nat.not_lt_zero i),Nat.le_refl _⟩
 simp at hcs;obtain⟨rfl,rfl,rfl⟩:=hcs;simp only [if_true] at hmm;refine⟨fun i hi=>?_,hl⟩;obtain⟨h0,h1,h2,h3⟩:=hx i (by omega);obtain⟨z,g1,_,g3⟩:=DataW.trod_int u0 h2;obtain⟨y,k1,_,k3⟩:=DataW.trod_int u1 h3;have e0:V0 i=.int .i64 z:=by simpa using g1
 have e1:V1 i=.int .u8 y:=by simpa using k1
 exact⟨ad,z,y,rfl,by rw [h0,e0],by rw [h1,e1],tQ g3,nJ k3⟩
theorem Ln {H:Type}{enc:TypeId×Value->H}{P:Program}{w:World}{base:Nat}{iW:Bool}{r:Reach}{b0:Nat}{t e q:TypeId}{v:Value}{d:DataW H}{ps:List MemPlace}
  (ht:P.underlying t=some (.array 4 e)) (he:P.underlying e=some (.array 3 q)) (hq:P.underlying q=some (.int .u8)) (ct:P.cellsOf t=12) (ce:P.cellsOf e=3) (cq:P.cellsOf q=1)
  (hval:Value.okWide P w r b0 t v) (hd:DataW.Trod enc P w base (fun _=>true) iW t v d ps):∃ aa:Nat->Nat->Nat,v=mN aa/\∀ k j,aa k j<256:=by
 obtain⟨cs,rfl,hcs⟩:∃ cs,v=.agg cs/\cs.size=P.cellsOf t:=by
  simp only [Value.okWide,ht] at hval;obtain⟨cs,h1,h2,_⟩:=hval;exact⟨cs,h1,h2⟩
 rw [ct] at hcs;obtain⟨fuel,h⟩:=hd;obtain⟨xs,m,_,_,_,hxl,hx⟩:=DataW.trod_array ht h;have each:∀ k j,k<4/\j<3->∃ n:Nat,n<256/\cs[k*3+j]? = some (.int .u8 (n:Int)):=by
  intro k j ⟨hk,hj⟩;have h1:=hx k hk;rw [List.getElem?_eq_getElem (by omega)] at h1;obtain⟨ys,m2,_,_,_,hyl,hy⟩:=DataW.trod_array he h1;have h2:=hy j hj;rw [List.getElem?_eq_getElem (by omega)] at h2;obtain⟨z,g1,_,g3⟩:=DataW.trod_int hq h2;rw [ce,cq] at g1;have hz:=nJ g3;refine⟨z.toNat,by omega,?_⟩;have g4:=congrArg (fun l=>l[0]?) g1;rw [show ((z.toNat:Nat):Int)=z by omega];simpa [List.getElem?_take,List.getElem?_drop,hj,Value.cells] using g4
 classical
 have spec:∀ k j,(hkj:k<4/\j<3)->_:=fun k j hkj=>(each k j hkj).choose_spec
 obtain⟨aa,haa⟩:∃ aa:Nat->Nat->Nat,∀ k j,aa k j<256/\(k<4/\j<3->cs[k*3+j]? = some (.int .u8 (aa k j:Int))):=by
  refine⟨fun k j=>if hkj:k<4/\j<3 then (each k j hkj).choose else 0,fun k j=>?_⟩;by_cases hkj:k<4/\j<3;rotate_left
  ·simp only [dif_neg hkj];exact⟨by omega,fun h=>absurd h hkj⟩
  simp only [dif_pos hkj];exact⟨(spec k j hkj).1,fun _=>(spec k j hkj).2⟩
 refine⟨aa,?_,fun k j=>(haa k j).1⟩;unfold mN;congr 1;apply Array.ext_getElem?;intro i;by_cases hi:i<12;rotate_left
 ·rw [Array.getElem?_eq_none (by omega),Array.getElem?_eq_none (by show (lu aa).size<=i;unfold lu;simp;omega)]
 have e3:i/3*3+i%3=i:=by omega
 have h1:=(haa (i/3) (i%3)).2 ⟨by omega,by omega⟩;have h2:=rX aa (i/3) (by omega) (i%3) (by omega);rw [e3] at h1 h2;rw [h1,h2]
end Go.Proofs.YtgccjgpdjkhpdaaGreat.B
