import Derived.Test.YtgccjgpdjkhpdaaGreatVErrors27
import Derived.Test.YtgccjgpdjkhpdaaGreatVErrors34
import Derived.Test.YtgccjgpdjkhpdaaGreatVErrors35
import Derived.Test.YtgccjgpdjkhpdaaGreatVErrors37
import Derived.Test.YtgccjgpdjkhpdaaGreatVErrors38
open List renaming range→Mw
open Nat renaming le_trans→Mx
/-! Own texts of this claim, part 36. -/
namespace Go.Proofs.YtgccjgpdjkhpdaaGreat.B
open Go.RowKit Go.Proofs.YtgccjgpdjkhpdaaGreatW.PrintWords Go.Proofs.YtgccjgpdjkhpdaaGreatW.PrintLast Go.Proofs.YtgccjgpdjkhpdaaGreatW.PrintMore
set_option linter.unusedVariables false
set_option linter.unusedSimpArgs false
def lV (l m:Nat):Nat:=(bp.getD (8*l+m) (0,0)).1
theorem uj (l m:Nat):lV l m<32768:=by
 have h:∀ p∈bp,p.1<32768:=by decide
 unfold lV;rw [List.getD_eq_getElem?_getD];cases h2:bp[8*l+m]? with
 | none=>decide
 | some p=>exact h p (List.mem_of_getElem? h2)
theorem Ju:∀ l:Fin 4,∀ m:Fin 8,F.ic.f 60 ((l.val:Nat):Int) ((m.val:Nat):Int)=some ((lV l.val m.val:Nat):Int):=by decide +kernel
theorem Jv (l m:Nat)(hl:l<4)(hm:m<8):Ev (fun k=>F.ic.f k (l:Int) (m:Int)) ((lV l m:Nat):Int) :=
 Ev.of (F.ic.mono l m) (Ju ⟨l,hl⟩ ⟨m,hm⟩)
theorem Jw (v r c b:Nat)(cs:List Nat)(hv:1<=v/\v<=40)(hr:r<17+4*v)(hc:c<17+4*v)(h:cI (17+4*(v:Int)) r c=b):bM v cs c r=true:=by
 have h2:cI (17+4*(v:Int)) r c≥0:=by omega
 have h3:(r<=8/\c<=8)\/(r=8/\c≥17+4*v-8)\/(c=8/\r≥17+4*v-7):=by
  unfold cI at h2
  repeat' split at h2
  all_goals omega
 clear h h2;unfold bM dz;simp only [Bool.or_eq_true,Bool.and_eq_true,decide_eq_true_eq];omega
theorem Jx (v r t:Nat)(cs:List Nat)(hv:7<=v/\v<=40)(hr:r<6)(ht:t<3):bM v cs (17+4*v-11+t) r=true:=by
 unfold bM dz;simp only [Bool.or_eq_true,Bool.and_eq_true,decide_eq_true_eq];omega
theorem Jy (F v:Nat)(bit:Nat->Nat×Nat->Bool)(cf:Nat->Nat->Bool)(hv:1<=v/\v<=40)(h:kG F v (fun x y=>cf y x)) :
  kG F v (fun x y=>dC bit (dW (17+4*v) (bM v (bA v))) 0 cf y x):=by
 have ho:∀ r c,bM v (bA v) c r=true->dC bit (dW (17+4*v) (bM v (bA v))) 0 cf r c=cf r c:=fun r c hg=>by
  refine zm _ r c _ 0 cf ?_;intro hm;have:=(rE _ _ _ _ _ _ hm).2.2.2;rw [hg] at this;cases this
 refine⟨fun r c hr hc b hb=>?_,fun h7 r t hr ht=>?_⟩
 ·show dC _ _ _ _ r c=_;rw [ho r c (Jw v r c b _ hv hr hc hb)];exact h.fmt r c hr hc b hb
 show dC _ _ _ _ r _=_;rw [ho r _ (Jx v r t _ ⟨h7,hv.2⟩ hr ht)];exact h.ver h7 r t hr ht
theorem Jz (c d e:Nat)(ws:List Nat)(k:Nat)(h:ff c d k+dl c d k<=ws.length):(eV c d e ws k).take (dl c d k)=jG c d ws k:=by
 unfold eV;rw [List.take_left' (rO c d ws k h)]
theorem uk (l:List Nat)(n:Nat)(h:l.length=n):(Mw n).map (fun i=>l.getD i 0)=l:=by
 subst h;apply List.ext_getElem
 ·simp
 intro i h1 h2;simp [List.getD_eq_getElem?_getD,List.getElem?_eq_getElem h2]
theorem JA (c d e:Nat)(ws:List Nat)(k:Nat)(he:1<=e)(h:ff c d k+dl c d k<=ws.length):(eV c d e ws k).length=dl c d k+e:=by
 unfold eV;rw [List.length_append,rO c d ws k h,nQ e _ he]
theorem z8 (c d c2 k:Nat)(hk:k<c+c2):ff c d k+dl c d k<=d*(c+c2)+c2:=by
 rw [<- nR,<- pi];have:=rN c d (k+1) (c+c2-(k+1))
 rwa [show k+1+(c+c2-(k+1))=c+c2 by omega] at this
theorem rU (v l:Nat)(ws:List Nat)(hv:1<=v/\v<=40)(hl:l<4)(hn:ws.length=cz v l)(k:Nat)(hk:k<av v l+aE v l) :
  cB (av v l) (aN v l) (aE v l) (aW v l) (nT v l ws) k=eV (av v l) (aN v l) (aW v l) ws k:=by
 unfold nT;rw [wJ _ _ _ _ _ k hk];refine uk _ _ (JA _ _ _ ws k (eD v l hv hl).e1 ?_);rw [hn];exact z8 _ _ _ k hk
theorem JB (v l:Nat)(ws:List Nat)(hv:1<=v/\v<=40)(hl:l<4)(hn:ws.length=cz v l)(hw:ab 8 ws) :
  tw (av v l) (aN v l) (aE v l) (aW v l) (nT v l ws):=by
 refine⟨fun j hj=>?_,fun j hj i hi=>?_⟩
 ·rw [rU v l ws hv hl hn j hj];exact zN _ _ _ ws j hw
 rw [rU v l ws hv hl hn j hj];exact IZ _ i _ (eD v l hv hl).e1 hi (ue _ _ ws j hw)
theorem JC (c d:Nat)(ws:List Nat):∀ k,ff c d k<=ws.length->((Mw k).flatMap fun j=>jG c d ws j)=ws.take (ff c d k):=by
 intro k
 induction k with
 | zero=>intro _;simp [zM]
 | succ k ih=>
  intro h;rw [nR] at h;rw [List.range_succ,List.flatMap_append,ih (by omega),nR,List.take_add];simp [jG]
theorem z9 (v l:Nat)(ws:List Nat)(hv:1<=v/\v<=40)(hl:l<4)(hn:ws.length=cz v l):eT v l (nT v l ws)=ws:=by
 unfold eT js;have h1:((Mw (av v l+aE v l)).flatMap fun j=>(cB (av v l) (aN v l) (aE v l) (aW v l) (nT v l ws) j).take (dl (av v l) (aN v l) j))=(Mw (av v l+aE v l)).flatMap fun j=>jG (av v l) (aN v l) ws j:=by
  apply qg;intro j hj;rw [rU v l ws hv hl hn j (List.mem_range.1 hj)];exact Jz _ _ _ ws j (by rw [hn];exact z8 _ _ _ j (List.mem_range.1 hj))
 have h2:ff (av v l) (aN v l) (av v l+aE v l)=ws.length:=by rw [pi,hn];rfl
 rw [h1,JC _ _ ws _ (by omega),h2,List.take_length]
theorem JD (v room:Nat)(segs:List Sg)(hs:∀ s∈segs,s.Ok v)(hfit:(cO segs v).length<=8*room) :
  ∃ p,Rd (jc (cO segs v) room) v ⟨0,[],[],false,-1,-1⟩ (some ⟨p,kY false segs,la segs,false,-1,-1⟩):=by
 obtain⟨post,h1,h2⟩:=IB (cO segs v) room hfit;obtain⟨p,hp⟩:=Gj (jc (cO segs v) room) v post h2 segs [] ⟨0,[],[],false,-1,-1⟩ hs (by rw [h1,List.nil_append]) rfl;exact⟨p,by simpa using hp⟩
theorem Aa {α:Type}[DecidableEq α]:∀ (l L:List α),l.Nodup->(∀ x∈l,x∈L)->l.length<=L.length
 | [],L,_,_=>Nat.zero_le _
 | x :: l,L,hn,hs=>by
  have hx:=hs x (List.mem_cons_self ..);have h1:=List.nodup_cons.1 hn;have h2:=Aa l (L.erase x) h1.2 fun y hy=>(List.mem_erase_of_ne (fun e=>h1.1 (by rw [<- e];exact hy))).2 (hs y (List.mem_cons_of_mem _ hy))
  rw [List.length_erase_of_mem hx] at h2;have:=List.length_pos_of_mem hx;rw [List.length_cons];omega
theorem rV {α:Type}[DecidableEq α](n:Nat)(f:Nat->Bool)(pl:Nat->α)(L:List α)(hi:∀ i j,i<n->j<n->pl i=pl j->i=j)(h:∀ i,i<n->f i=true->pl i∈L):((Mw n).filter f).length<=L.length:=by
 have h1:(((Mw n).filter f).map pl).Nodup:=by
  have h0:((Mw n).filter f).Nodup:=List.Pairwise.filter _ List.nodup_range;unfold List.Nodup at h0 ⊢;rw [List.pairwise_map];refine h0.imp_of_mem fun {i j} hi' hj' hne e=>hne (hi i j ?_ ?_ e)
  ·exact List.mem_range.1 (List.mem_filter.1 hi').1
  exact List.mem_range.1 (List.mem_filter.1 hj').1
 have h2:=Aa _ L h1 fun x hx=>by
  obtain⟨i,hi,rfl⟩:=List.mem_map.1 hx;have:=List.mem_filter.1 hi;exact h i (List.mem_range.1 this.1) this.2
 rwa [List.length_map] at h2
theorem Ac:∀ k x,ba k x<=ba (k+1) x
 | 0,x=>by rw [ba];exact Nat.zero_le _
 | k+1,x=>by
  rw [ba,ba];have:=Ac k (x/2);omega
theorem ul (f g:Nat->Bool):∀ n,hd (aJ f n) (aJ g n)<=((Mw n).filter fun k=>f k != g k).length:=by
 intro n
 induction n with
 | zero=>unfold aJ hd;rw [Nat.xor_self,uo];exact Nat.zero_le _
 | succ n ih=>
  rw [List.range_succ,List.filter_append,List.length_append];unfold hd at ih ⊢;rw [aJ,aJ];have e:∀ (a b:Nat) (x y:Bool),ba 64 ((2*a+x.toNat) ^^^ (2*b+y.toNat))<=ba 64 (a ^^^ b)+if x != y then 1 else 0:=by
   intro a b x y;show ba (63+1) _<=_;rw [ba,Nat.xor_div_two,show (2*a+x.toNat)/2=a by cases x<;>simp<;>omega,show (2*b+y.toNat)/2=b by cases y<;>simp<;>omega]
   have h1:ba 63 (a ^^^ b)<=ba 64 (a ^^^ b):=Ac 63 (a ^^^ b);have h2:((2*a+x.toNat) ^^^ (2*b+y.toNat))%2=if x != y then 1 else 0:=by
    have e:=Nat.xor_mod_two_pow (a:=2*a+x.toNat) (b:=2*b+y.toNat) (n:=1);simp only [Nat.pow_one] at e;rw [e];cases x<;>cases y<;>simp [Nat.mul_add_mod]
   omega
  have:=e (aJ f n) (aJ g n) (f n) (g n);have e2:([n].filter fun k=>f k != g k).length=if f n != g n then 1 else 0:=by
   by_cases h:(f n != g n)=true
   ·simp [List.filter,h]
   simp [List.filter,h]
  rw [e2];omega
theorem ll (v k i r c:Nat)(hv:1<=v/\v<=40)(hk:k<4)(h:ir v k i=some (r,c)):(k=0/\r<6/\c=8)\/(k=1/\r=8/\17+4*v-8<=c/\c<17+4*v)\/(k=2/\7<=v/\r<6/\17+4*v-11<=c/\c<17+4*v-8)\/(k=3/\7<=v/\c<6/\17+4*v-11<=r/\r<17+4*v-8):=by
 unfold ir at h
 repeat' split at h
 all_goals simp only [Option.some.injEq,Prod.mk.injEq,reduceCtorEq] at h
 all_goals omega
theorem JE (v k i r c:Nat)(cs:List Nat)(hv:1<=v/\v<=40)(hk:k<4)(h:ir v k i=some (r,c)):bM v cs c r=true:=by
 have h:=ll v k i r c hv hk h;unfold bM dz;simp only [Bool.or_eq_true,Bool.and_eq_true,decide_eq_true_eq];omega
section
variable {v:Nat} {cf1 cf2 f0 f:Nat->Nat->Bool} {Ls:Nat->List (Nat×Nat)}
theorem ln (hT:gF v cf1 cf2 Ls)(h0:∀ x y,x<17+4*v->y<17+4*v->f0 x y=cf1 y x)(h1:∀ x y,x<17+4*v->y<17+4*v->f x y=cf2 y x)(x y:Nat)(hx:x<17+4*v)(hy:y<17+4*v)(h:f x y≠f0 x y):∃ k i,k<4/\(y,x)∈Ls k/\ir v k i=some (y,x):=by
 rw [h0 x y hx hy,h1 x y hx hy] at h;by_cases hn:∀ k,k<4->(y,x)∉Ls k
 ·exact absurd (hT.same y x hn) h
 obtain⟨k,hk⟩:=Classical.not_forall.1 hn;obtain⟨hk4,hm⟩:=Classical.not_imp.1 hk;have hm:=Classical.not_not.1 hm;obtain⟨i,hi⟩:=hT.place k _ hm;exact⟨k,i,hk4,hm,hi⟩
theorem JF (hv:1<=v/\v<=40)(hT:gF v cf1 cf2 Ls)(h0:∀ x y,x<17+4*v->y<17+4*v->f0 x y=cf1 y x)(h1:∀ x y,x<17+4*v->y<17+4*v->f x y=cf2 y x)(x y:Nat)(hx:x<17+4*v)(hy:y<17+4*v)(h:bM v (bA v) x y=false):f x y=f0 x y:=by
 by_cases he:f x y=f0 x y
 ·exact he
 obtain⟨k,i,hk,_,hp⟩:=ln hT h0 h1 x y hx hy he;have:=JE v k i y x (bA v) hv hk hp;rw [h] at this;cases this
theorem JG (hv:1<=v/\v<=40)(hT:gF v cf1 cf2 Ls)(hL:∀ k,(Ls k).length<=3)(h0:∀ x y,x<17+4*v->y<17+4*v->f0 x y=cf1 y x)(h1:∀ x y,x<17+4*v->y<17+4*v->f x y=cf2 y x)(h7:7<=v):hd (gG f (17+4*v) 18) (gG f0 (17+4*v) 18)<=3:=by
 rw [sY,sY];refine Mx (ul _ _ 18) (Mx (rV 18 _ (fun k=>(5-k/3,17+4*v-9-k%3)) (Ls 2) (fun i j hi hj e=>?_) fun k hk hf=>?_) (hL 2))
 ·simp only [Prod.mk.injEq] at e;omega
 obtain⟨k',i,hk',hm,hp⟩:=ln hT h0 h1 (17+4*v-9-k%3) (5-k/3) (by omega) (by omega) (by simpa using hf);have:=ll v k' i _ _ hv hk' hp;obtain rfl:k'=2:=by omega
 exact hm
theorem JH (hv:1<=v/\v<=40)(hT:gF v cf1 cf2 Ls)(hL:∀ k,(Ls k).length<=3)(h0:∀ x y,x<17+4*v->y<17+4*v->f0 x y=cf1 y x)(h1:∀ x y,x<17+4*v->y<17+4*v->f x y=cf2 y x):hd (aJ (cW f) 15) (aJ (cW f0) 15)<=3:=by
 refine Mx (ul _ _ 15) (Mx (rV 15 _ (fun k=>(14-k,if k<9 then 100 else 8)) (Ls 0) (fun i j hi hj e=>?_) fun k hk hf=>?_) (hL 0))
 ·simp only [Prod.mk.injEq] at e;omega
 have hne:cW f k≠cW f0 k:=by simpa using hf
 unfold cW at hne;by_cases h6:k<6
 ·rw [if_pos h6,if_pos h6] at hne;obtain⟨k',i,hk',hm,hp⟩:=ln hT h0 h1 k 8 (by omega) (by omega) hne;have:=ll v k' i _ _ hv hk' hp;omega
 rw [if_neg h6,if_neg h6] at hne;by_cases h9:k<9;rotate_left
 ·rw [if_neg (by omega),if_neg (by omega),if_neg (by omega),if_neg (by omega),if_neg (by omega),if_neg (by omega)] at hne;obtain⟨k',i,hk',hm,hp⟩:=ln hT h0 h1 8 (14-k) (by omega) (by omega) hne;have:=ll v k' i _ _ hv hk' hp;obtain rfl:k'=0:=by omega
  simp only [if_neg h9];exact hm
 rcases (show k=6\/k=7\/k=8 by omega) with rfl | rfl | rfl
 ·obtain⟨k',i,hk',hm,hp⟩:=ln hT h0 h1 7 8 (by omega) (by omega) hne;have:=ll v k' i _ _ hv hk' hp;omega
 ·obtain⟨k',i,hk',hm,hp⟩:=ln hT h0 h1 8 8 (by omega) (by omega) hne;have:=ll v k' i _ _ hv hk' hp;omega
 obtain⟨k',i,hk',hm,hp⟩:=ln hT h0 h1 8 7 (by omega) (by omega) hne;have:=ll v k' i _ _ hv hk' hp;omega
theorem JI (hv:1<=v/\v<=40)(hT:gF v cf1 cf2 Ls)(hL:∀ k,(Ls k).length<=3)(h0:∀ x y,x<17+4*v->y<17+4*v->f0 x y=cf1 y x)(h1:∀ x y,x<17+4*v->y<17+4*v->f x y=cf2 y x):hd (aJ (ew f (17+4*v)) 15) (aJ (ew f0 (17+4*v)) 15)<=3:=by
 refine Mx (ul _ _ 15) (Mx (rV 15 _ (fun k=>(8,17+4*v-15+k)) (Ls 1) (fun i j hi hj e=>?_) fun k hk hf=>?_) (hL 1))
 ·simp only [Prod.mk.injEq] at e;omega
 have hne:ew f (17+4*v) k≠ew f0 (17+4*v) k:=by simpa using hf
 unfold ew at hne;by_cases h7:k<7
 ·rw [if_pos h7,if_pos h7] at hne;obtain⟨k',i,hk',hm,hp⟩:=ln hT h0 h1 8 (17+4*v-1-k) (by omega) (by omega) hne;have:=ll v k' i _ _ hv hk' hp;omega
 rw [if_neg h7,if_neg h7] at hne;obtain⟨k',i,hk',hm,hp⟩:=ln hT h0 h1 (17+4*v-15+k) 8 (by omega) (by omega) hne;have:=ll v k' i _ _ hv hk' hp;obtain rfl:k'=1:=by omega
 exact hm
end
end Go.Proofs.YtgccjgpdjkhpdaaGreat.B
