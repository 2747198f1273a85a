import Derived.Test.YtgccjgpdjkhpdaaGreatVQ0
/-! Own texts of this claim, part 1. -/
namespace Go.Proofs.YtgccjgpdjkhpdaaGreatW.PrintWords
open Go.RowKit
namespace Kd
def tag {α:Type}(f:Nat->Nat)(d:Kd α):Kd (α×Nat) where
 sz:=d.sz
 E:=d.E
 K:=fun w x cs=>d.K w x.1 cs
 M:=fun w base ok x cs=>d.M w base (fun k=>ok k/\f k=x.2) x.1 cs
 K_len:=fun h=>d.K_len h
 K_one:=fun h=>d.K_one h
 K_below:=fun hb h=>d.K_below hb h
 K_of_M:=fun h=>d.K_of_M h
 M_mono:=fun hok h=>d.M_mono (fun k hk=>⟨hok k hk.1,hk.2⟩) h
 M_bound:=fun h=>d.M_mono (fun _ hk=>⟨⟨hk.1.1,hk.2⟩,hk.1.2⟩) (d.M_bound h)
 M_move:=fun hm h=>d.M_move (fun k hk=>hm k hk.1) h
 M_lower:=fun hb h=>d.M_lower hb h
def bare {α:Type}(d:Kd α):Kd α where
 sz:=d.sz
 E:=d.E
 K:=d.K
 M:=fun w base _ x cs=>d.M w base (fun _=>False) x cs
 K_len:=fun h=>d.K_len h
 K_one:=fun h=>d.K_one h
 K_below:=fun hb h=>d.K_below hb h
 K_of_M:=fun h=>d.K_of_M h
 M_mono:=fun _ h=>h
 M_bound:=fun h=>h
 M_move:=fun _ h=>d.M_move (fun _ hk=>hk.elim) h
 M_lower:=fun hb h=>d.M_lower hb h
def raw (sz:Nat):Kd (List Value) where
 sz:=sz
 E:=[]
 K:=fun _ x cs=>cs=x/\cs.length=sz/\∀ u∈cs,u.oneCell'=true
 M:=fun _ _ _ x cs=>cs=x/\cs.length=sz/\∀ u∈cs,u.oneCell'=true
 K_len:=fun h=>h.2.1
 K_one:=fun h=>h.2.2
 K_below:=fun _ h=>h
 K_of_M:=fun h=>h
 M_mono:=fun _ h=>h
 M_bound:=fun h=>h
 M_move:=fun _ h=>h
 M_lower:=fun _ h=>h
def S {α:Type}(d:Kd α)(e:Nat)(w:World)(base:Nat)(ok:Nat->Prop)(v:Value)(xs:List α):Prop:=∃ f,(tag f d).R e w base ok v xs.zipIdx
section
variable {α β:Type} {d:Kd α} {d':Kd β} {e e':Nat} {w w1 W:World} {base b:Nat} {ok ok' okv oku:Nat->Prop} {u v:Value} {xs:List α} {ys:List β}
theorem zip_at {xs:List α}{j:Nat}{p:α}(h:xs[j]? = some p):xs.zipIdx[j]? = some (p,j):=by rw [List.getElem?_zipIdx,h,Nat.zero_add];rfl
theorem S_R (h:S d e w base ok v xs):d.R e w base ok v xs:=by
 obtain⟨f,h0,inner,ho,hr⟩:=h
 rw [List.length_zipIdx] at ho
 exact⟨h0,inner,ho,by have:=hr.1;rw [List.length_zipIdx] at this;exact this,fun j p hj=>d.M_mono (fun _ hk=>hk.1) (hr.2 j (p,j) (zip_at hj))⟩
theorem R_head {ad:Addr}{n cap:Nat}(h:d.R e w base ok (.slice (some ad) n cap) xs):∃ g,ad=⟨g,0,none⟩:=by
 obtain⟨_,inner,ho,hr⟩:=h
 rcases ho.2 with⟨hv,_⟩ | ⟨g,cap',cur,hv,_⟩
 ·cases hv
 ·injection hv with ha _ _
  injection ha with ha
  exact⟨g,ha⟩
theorem R_getA {ad:Addr}{n cap:Nat}(h:d.R e W base ok (.slice (some ad) n cap) xs)(z:α)(i:Int)(h0:0<=i)(h1:i<n) :
  ∃ c,c.length=d.sz/\d.M W base (fun k=>ok k/\some k≠(Value.slice (some ad) n cap).ownBlock) (xs.getD i.toNat z) c/\∀ j u,c[j]? = some u->W.cell? (ad.add (i.toNat*d.sz+j))=some u:=by
 obtain⟨g,rfl⟩:=R_head h
 obtain⟨c,hcl,hM,hcc,_⟩:=R_elem h z i h0 h1
 refine⟨c,hcl,d.M_mono (fun k hk=>⟨hk.1,fun he=>hk.2 (by simpa [Value.ownBlock] using he)⟩) hM,fun j u hu=>?_⟩
 rw [add_at,Nat.zero_add]
 exact hcc j u hu
theorem R_tight (hE:d.E=[])(h:d.R e w base ok v xs):d.R e w base (fun k=>some k=v.ownBlock) v xs:=by
 obtain⟨h0,inner,ho,hr⟩:=h
 refine⟨fun k hk=>hk.symm,inner,ho,hr.imp_ (fun p c hp=>d.M_mono (fun k hk=>?_) (d.M_bound hp))⟩
 obtain⟨_,_,_,q,hq,_⟩:=hk
 rw [hE] at hq
 cases hq
theorem S_nil (d:Kd α)(e:Nat)(w:World)(base:Nat)(ok:Nat->Prop):S d e w base ok (.slice none 0 0) []:=⟨fun _=>0,R_nil _ _ _ _ _⟩
theorem S_mono (h:S d e w base ok v xs)(hok:∀ k,ok k->ok' k):S d e w base ok' v xs:=by
 obtain⟨f,h⟩:=h
 exact⟨f,R_mono h hok⟩
theorem S_bound (h:S d e w base ok v xs):S d e w base (fun k=>ok k/\base<=k/\k<w.heap.size/\∃ q,q∈e :: d.E/\∃ cells,w.heap[k]? = some (.cells cells q (0,0))) v xs:=by
 obtain⟨f,h⟩:=h
 exact⟨f,R_bound h⟩
theorem S_move (h:S d e w base ok v xs)(hm:∀ k,ok k->w1.heap[k]? = w.heap[k]?):S d e w1 base ok v xs:=by
 obtain⟨f,h⟩:=h
 exact⟨f,R_move h hm⟩
theorem S_lower {base':Nat}(h:S d e w base ok v xs)(hb:base'<=base):S d e w base' ok v xs:=by
 obtain⟨f,h⟩:=h
 exact⟨f,R_lower h hb⟩
theorem S_step (h:S d e w base ok v xs)(hm:∀ k,ok k->k<w.heap.size->w1.heap[k]? = w.heap[k]?):S d e w1 base ok v xs :=
 S_mono (S_move (S_bound h) (fun k hk=>hm k hk.1 hk.2.2.1)) (fun _ hk=>hk.1)
theorem S_below (h:S d e w base ok v xs)(hb:Below w.heap.size w w1):S d e w1 base ok v xs:=S_step h (fun k _ hk=>hb.block k hk)
theorem S_alloc (h:S d e w base ok v xs)(o:Obj):S d e (w.alloc o) base ok v xs:=S_below h (below_alloc (Below.refl _ _) o)
theorem S_drew (h:S d e w base ok v xs):S d e w.drew base ok v xs:=S_below h (below_drew (Below.refl _ _))
theorem S_drewN (h:S d e w base ok v xs)(m:Nat):S d e (w.drewN m) base ok v xs:=S_below h (pw_below_drewN (Below.refl _ _) m)
theorem S_typed (h:S d e w base ok v xs):∀ k,v.ownBlock=some k->∃ cells,w.heap[k]? = some (.cells cells e (0,0)):=R_typed (S_R h)
theorem S_elder' (h:S d e W base ok u xs)(hbase:∀ k,v.ownBlock=some k->W.heap.size<=k)(hb:Below W.heap.size W w1):S d e w1 base (fun k=>ok k/\some k≠v.ownBlock) u xs:=by
 obtain⟨f,h⟩:=h
 exact⟨f,R_elder' h hbase hb⟩
theorem S_bare (h:(bare d).R e w base ok v xs):S d e w base ok v xs:=by
 obtain⟨h0,inner,ho,hr⟩:=h
 refine⟨fun _=>0,h0,inner,by rw [List.length_zipIdx];exact ho,by rw [List.length_zipIdx];exact hr.1,fun j p hj=>?_⟩
 rw [List.getElem?_zipIdx,Nat.zero_add] at hj
 obtain⟨x,hx,rfl⟩:=Option.map_eq_some_iff.1 hj
 exact d.M_mono (fun _ hk=>hk.elim) (hr.2 j x hx)
end
section
variable {α β:Type} {d:Kd α} {d':Kd β} {e e' g:Nat} {w w1 W:World} {base b:Nat} {ok ok' okv oku:Nat->Prop} {u v:Value} {xs:List α} {ys:List β}
theorem S_form (h:S d e w base ok v xs)(hp:0<xs.length):∃ g cap,v=.slice (some ⟨g,0,none⟩) xs.length cap/\base<=g/\g<w.heap.size/\∃ cells,w.heap[g]? = some (.cells cells e (0,0)):=R_form (S_R h) hp
theorem S_slice (h:S d e w base ok v xs):∃ A c,v=.slice A xs.length c:=R_slice (S_R h)
theorem S_reads' {A:Option Addr}{n c:Nat}(h:S d e w base ok (.slice A n c) xs):n=xs.length/\n<=c/\d.C w A xs.length xs:=R_reads' (S_R h)
theorem S_get {ad:Addr}{n cap:Nat}(h:S d e W base ok (.slice (some ad) n cap) xs)(z:α)(i:Int)(h0:0<=i)(h1:i<n) :
  ∃ c,c.length=d.sz/\d.M W base (fun k=>ok k/\some k≠(Value.slice (some ad) n cap).ownBlock) (xs.getD i.toNat z) c/\∀ j u,c[j]? = some u->W.cell? (ad.add (i.toNat*d.sz+j))=some u:=R_getA (S_R h) z i h0 h1
end
section
variable {P:Program} {ops:Array Oper} {rest:List Oper} {o:Oper} {a:Act} {Q:Exit->Act->World->Prop} {Kc:Act->World->Prop} {α:Type}
theorem S_make (d:Kd α){w0 W:World}(base e:Nat)(hgd:o.guard=none){N:Tmp}(hd:o.dst=some N)(t:TypeId)(x y:Operand)(ho:o.op=.makeSlice t x y)(n:Int)(hx:a.eval x=.int .i64 n)(hy:a.eval y=.int .i64 n)
  (ht:P.underlying t=some (.slice e)) (z:Value) (bytes:Nat) (hinfo:(P.info? e).map (fun i=>(i.zero,i.size,i.bytes))=some (some z,d.sz,bytes)) (hz:z.cells.size=d.sz) (hs0:0<d.sz) (hb0:0<bytes)
  (z0:α) {ok okp:Nat->Prop} (hzero:d.M W base (fun _=>False) z0 z.cells.toList) (_hok:∀ k,okp k->ok k) (hfresh:ok W.heap.size) (h0:0<=n) (hl:n.toNat*bytes<=281474976710656) (HB:Below base w0 W) (hbase:base<=W.heap.size)
  (h:∀ v1 w1,S d e w1 base ok v1 (List.replicate n.toNat z0)->Below base w0 w1->W.grownBy w1 none->(∃ b,v1.ownBlock=some b/\W.heap.size<=b)->wpList P ops Q rest (a.put o.dst v1) w1):wpList P ops Q (o :: rest) a W :=
 R_make (bare d) base e hgd hd t x y ho n hx hy ht z bytes hinfo hz hs0 hb0 z0 (ok:=ok) (okp:=ok) hzero (fun _ hk=>hk) hfresh h0 hl HB hbase (fun v1 w1 hr=>h v1 w1 (S_bare hr))
end
def gap {α:Type}(f:Nat->Nat)(d:Kd α)(i:Nat)(c:List Value):Kd (α×Nat) where
 sz:=d.sz
 E:=d.E
 K:=fun w x cs=>(x.2=i->cs=c/\cs.length=d.sz/\∀ u∈cs,u.oneCell'=true)/\(x.2≠i->d.K w x.1 cs)
 M:=fun w base ok x cs=>(x.2=i->cs=c/\cs.length=d.sz/\∀ u∈cs,u.oneCell'=true)/\(x.2≠i->d.M w base (fun k=>ok k/\f k=x.2) x.1 cs)
 K_len:=fun {w x cs} h=>by
  by_cases hx:x.2=i
  ·exact (h.1 hx).2.1
  ·exact d.K_len (h.2 hx)
 K_one:=fun {w x cs} h=>by
  by_cases hx:x.2=i
  ·exact (h.1 hx).2.2
  ·exact d.K_one (h.2 hx)
 K_below:=fun hb h=>⟨h.1,fun hx=>d.K_below hb (h.2 hx)⟩
 K_of_M:=fun h=>⟨h.1,fun hx=>d.K_of_M (h.2 hx)⟩
 M_mono:=fun hok h=>⟨h.1,fun hx=>d.M_mono (fun k hk=>⟨hok k hk.1,hk.2⟩) (h.2 hx)⟩
 M_bound:=fun h=>⟨h.1,fun hx=>d.M_mono (fun _ hk=>⟨⟨hk.1.1,hk.2⟩,hk.1.2⟩) (d.M_bound (h.2 hx))⟩
 M_move:=fun hm h=>⟨h.1,fun hx=>d.M_move (fun k hk=>hm k hk.1) (h.2 hx)⟩
 M_lower:=fun hb h=>⟨h.1,fun hx=>d.M_lower hb (h.2 hx)⟩
def H {α:Type}(d:Kd α)(e:Nat)(w:World)(base:Nat)(ok:Nat->Prop)(v:Value)(xs:List α)(i:Int)(oki:Nat->Prop)(c:List Value):Prop :=
 (∀ k,oki k->ok k)/\∃ f,(gap f d i.toNat c).R e w base (fun k=>ok k/\¬ oki k) v xs.zipIdx
section
variable {α β:Type} {d:Kd α} {e e' g n cap:Nat} {w w1 W:World} {base:Nat} {ok ok' oki okp:Nat->Prop} {u v:Value} {xs:List α} {i:Int} {c:List Value}
theorem S_lend (h:S d e W base ok (.slice (some ⟨g,0,none⟩) n cap) xs)(z:α)(i:Int)(h0:0<=i)(h1:i<n) :
  ∃ (oki:Nat->Prop) (c:List Value),c.length=d.sz/\d.M W base oki (xs.getD i.toNat z) c/\(∀ j u,c[j]? = some u->W.cell? ⟨g,i.toNat*d.sz+j,none⟩=some u)/\(∀ k,oki k->ok k/\k≠g)/\H d e W base ok (.slice (some ⟨g,0,none⟩) n cap) xs i oki c:=by
 obtain⟨f,hR⟩:=h
 have hn:=(R_reads' hR).1
 rw [List.length_zipIdx] at hn
 have hgo:some g=(Value.slice (some ⟨g,0,none⟩) n cap).ownBlock:=by simp [Value.ownBlock]
 obtain⟨hok0,inner,ho,hr⟩:=hR
 have hil:i.toNat<xs.length:=by omega
 have hlen:inner.length=xs.length*d.sz:=by have:=hr.1;rw [List.length_zipIdx] at this;exact this
 have hseg:i.toNat*d.sz+d.sz<=inner.length:=by rw [hlen,<- Nat.succ_mul];exact Nat.mul_le_mul_right _ hil
 have hM:=hr.2 i.toNat _ (zip_at (List.getElem?_eq_getElem hil))
 have hkg:∀ k,some k≠(Value.slice (some ⟨g,0,none⟩) n cap).ownBlock->k≠g:=fun k hk he=>hk (by rw [he];exact hgo)
 refine⟨fun k=>(ok k/\k≠g)/\f k=i.toNat,(inner.drop (i.toNat*d.sz)).take d.sz,by rw [List.length_take,List.length_drop];omega,?_,fun j u hu=>?_,fun k hk=>hk.1,fun k hk=>hk.1.1,f,fun k hk=>⟨hok0 k hk,fun h2=>h2.1.2 ?_⟩,inner,ho,hr.1,fun m p hm=>?_⟩
 ·rw [List.getD_eq_getElem?_getD,List.getElem?_eq_getElem hil]
  exact d.M_mono (fun k hk=>⟨⟨hk.1.1,hkg k hk.1.2⟩,hk.2⟩) hM
 ·rw [List.getElem?_take] at hu
  split at hu
  ·rw [List.getElem?_drop] at hu
   have:=ho.cells (g:=g) hgo.symm _ u hu
   rwa [add_plain] at this
  ·cases hu
 ·rw [<- hgo] at hk;injection hk with hk;exact hk.symm
 ·have hold:=hr.2 m p hm
  have hp2:p.2=m:=by
   rw [List.getElem?_zipIdx,Nat.zero_add] at hm
   obtain⟨q,_,rfl⟩:=Option.map_eq_some_iff.1 hm
   rfl
  refine⟨fun hx=>?_,fun hx=>d.M_mono (fun k hk=>⟨⟨⟨hk.1.1,fun h2=>hx ?_⟩,hk.1.2⟩,hk.2⟩) hold⟩
  ·have hmi:m=i.toNat:=by omega
   subst hmi
   exact⟨rfl,d.K_len (d.K_of_M hM),d.K_one (d.K_of_M hM)⟩
  ·rw [<- hk.2];exact h2.2
open Classical in
theorem H_back (h:H d e w base ok v xs i oki c){x':α}(hM:d.M w base okp x' c)(hok:∀ k,okp k->oki k):S d e w base ok v (xs.set i.toNat x'):=by
 obtain⟨ho,f,h0,inner,hown,hr⟩:=h
 refine⟨fun k=>if oki k then i.toNat else f k,fun k hk=>(h0 k hk).1,inner,by rw [List.length_zipIdx,List.length_set];rw [List.length_zipIdx] at hown;exact hown,by have:=hr.1;rw [List.length_zipIdx] at this;rw [List.length_zipIdx,List.length_set];exact this,fun m p hm=>?_⟩
 rw [List.getElem?_zipIdx,Nat.zero_add] at hm
 obtain⟨q,hq,rfl⟩:=Option.map_eq_some_iff.1 hm
 have hml:m<xs.length:=by
  have:=(List.getElem?_eq_some_iff.1 hq).1
  rwa [List.length_set] at this
 by_cases hmi:m=i.toNat
 ·subst hmi
  rw [List.getElem?_set_self hml] at hq
  injection hq with hq
  subst hq
  have hc:=((hr.2 i.toNat _ (zip_at (List.getElem?_eq_getElem hml))).1 rfl).1
  show d.M w base _ x' ((inner.drop (i.toNat*d.sz)).take d.sz)
  rw [show (inner.drop (i.toNat*d.sz)).take d.sz=c from hc]
  exact d.M_mono (fun k hk=>⟨⟨ho k (hok k hk),fun he=>(h0 k he.symm).2 (hok k hk)⟩,if_pos (hok k hk)⟩) hM
 ·rw [List.getElem?_set_ne (Ne.symm hmi)] at hq
  exact d.M_mono (fun k hk=>⟨⟨hk.1.1.1,hk.1.2⟩,(if_neg hk.1.1.2).trans hk.2⟩) ((hr.2 m (q,m) (zip_at hq)).2 hmi)
theorem H_step (h:H d e w base ok v xs i oki c)(hm:∀ k,ok k->¬ oki k->k<w.heap.size->w1.heap[k]? = w.heap[k]?):H d e w1 base ok v xs i oki c:=by
 obtain⟨ho,f,h⟩:=h
 exact⟨ho,f,R_step h (fun k hk hlt=>hm k hk.1 hk.2 hlt)⟩
theorem H_grown (h:H d e w base ok v xs i oki c){row:Option Nat}(hg:w.grownBy w1 row)(hrow:∀ k,row=some k->oki k):H d e w1 base ok v xs i oki c :=
 H_step h (fun k _ hn hlt=>hg.block k hlt (fun he=>hn (hrow k he.symm)))
theorem H_more {okg:Nat->Prop}(h:H d e w base (fun k=>ok k/\¬ okg k) v xs i oki c)(hg:∀ k,okg k->ok k):H d e w base ok v xs i (fun k=>oki k\/okg k) c:=by
 obtain⟨ho,f,h⟩:=h
 exact⟨fun k hk=>hk.elim (fun h2=>(ho k h2).1) (hg k),f,R_mono h (fun k hk=>⟨hk.1.1,fun h2=>h2.elim hk.2 hk.1.2⟩)⟩
theorem S_borrow {ad:Addr}(h:S d e W base ok (.slice (some ad) n cap) xs)(z:α)(i:Int)(h0:0<=i)(h1:i<n) :
  ∃ (oki:Nat->Prop) (c:List Value),c.length=d.sz/\d.M W base oki (xs.getD i.toNat z) c/\(∀ j u,c[j]? = some u->W.cell? (ad.add (i.toNat*d.sz+j))=some u)/\(∀ k,oki k->ok k/\some k≠(Value.slice (some ad) n cap).ownBlock)/\
   ∀ {w1:World} {row:Option Nat} {x':α},W.grownBy w1 row->(∀ k,row=some k->oki k)->d.M w1 base oki x' c->S d e w1 base ok (.slice (some ad) n cap) (xs.set i.toNat x'):=by
 obtain⟨g,rfl⟩:=R_head (S_R h)
 obtain⟨oki,c,hcl,hM,hcc,hoki,hH⟩:=S_lend h z i h0 h1
 refine⟨oki,c,hcl,hM,fun j u hu=>?_,fun k hk=>⟨(hoki k hk).1,fun he=>(hoki k hk).2 ?_⟩,fun hg hrow hM1=>H_back (H_grown hH hg hrow) hM1 (fun _ hk=>hk)⟩
 ·rw [add_at,Nat.zero_add]
  exact hcc j u hu
 ·simpa [Value.ownBlock] using he
theorem S_elem (h:S d e W base ok (.slice (some ⟨g,0,none⟩) n cap) xs)(z:α)(i:Int)(h0:0<=i)(h1:i<n) :
  ∃ (oki:Nat->Prop) (c:List Value),c.length=d.sz/\d.M W base oki (xs.getD i.toNat z) c/\(∀ j u,c[j]? = some u->W.cell? ⟨g,i.toNat*d.sz+j,none⟩=some u)/\(∀ j,W.frozen? ⟨g,i.toNat*d.sz+j,none⟩=false)/\(∀ k,oki k->ok k/\k≠g)/\H d e W base ok (.slice (some ⟨g,0,none⟩) n cap) xs i oki c:=by
 obtain⟨_,_,_,_,hfr⟩:=R_elem (S_R h) z i h0 h1
 obtain⟨oki,c,hcl,hM,hcc,hoki,hH⟩:=S_lend h z i h0 h1
 exact⟨oki,c,hcl,hM,hcc,hfr,hoki,hH⟩
theorem H_raw (h:H d e W base ok (.slice (some ⟨g,0,none⟩) n cap) xs i oki c)(h0:0<=i)(h1:i<n) :
  ∃ rows:List (List Value),rows.length=xs.length/\(raw d.sz).R e W base (fun _=>True) (.slice (some ⟨g,0,none⟩) n cap) rows/\c.length=d.sz/\(∀ u∈c,u.oneCell'=true)/\(∀ j u,c[j]? = some u->W.cell? ⟨g,i.toNat*d.sz+j,none⟩=some u)/\
   ∀ w1 c',W.grownBy w1 (some g)->(raw d.sz).R e w1 base (fun _=>True) (.slice (some ⟨g,0,none⟩) n cap) (rows.set i.toNat c')->H d e w1 base ok (.slice (some ⟨g,0,none⟩) n cap) xs i oki c':=by
 obtain⟨hoo,f,hR⟩:=h
 have hn:=(R_reads' hR).1
 rw [List.length_zipIdx] at hn
 have hgo:some g=(Value.slice (some ⟨g,0,none⟩) n cap).ownBlock:=by simp [Value.ownBlock]
 obtain⟨hok0,inner,ho,hr⟩:=hR
 have hil:i.toNat<xs.length:=by omega
 have hlen:inner.length=xs.length*d.sz:=by have:=hr.1;rw [List.length_zipIdx] at this;exact this
 have hkg:∀ k,some k≠(Value.slice (some ⟨g,0,none⟩) n cap).ownBlock->k≠g:=fun k hk he=>hk (by rw [he];exact hgo)
 have hci:=(hr.2 i.toNat _ (zip_at (List.getElem?_eq_getElem hil))).1 rfl
 rw [hci.1] at hci
 have hc:=((hr.2 i.toNat _ (zip_at (List.getElem?_eq_getElem hil))).1 rfl).1
 refine⟨(List.range xs.length).map fun j=>(inner.drop (j*d.sz)).take d.sz,by rw [List.length_map,List.length_range],⟨fun _ _=>trivial,inner,?_,?_,fun j p hj=>?_⟩,hci.2.1,hci.2.2,fun j u hu=>?_,fun w1 c' hg hraw=>?_⟩
 ·rw [List.length_map,List.length_range];rw [List.length_zipIdx] at ho;exact ho
 ·rw [List.length_map,List.length_range];exact hlen
 ·rw [List.getElem?_map] at hj
  obtain⟨j',hj',rfl⟩:=Option.map_eq_some_iff.1 hj
  obtain⟨hl,he⟩:=List.getElem?_eq_some_iff.1 hj'
  rw [List.getElem_range] at he
  subst he
  rw [List.length_range] at hl
  have hm:=(gap f d i.toNat c).K_of_M (hr.2 j _ (zip_at (List.getElem?_eq_getElem hl)))
  exact⟨rfl,(gap f d i.toNat c).K_len hm,(gap f d i.toNat c).K_one hm⟩
 ·rw [<- hc,List.getElem?_take] at hu
  split at hu
  ·rw [List.getElem?_drop] at hu
   have:=ho.cells (g:=g) hgo.symm _ u hu
   rwa [add_plain] at this
  ·cases hu
 ·obtain⟨_,inner',ho',hr'⟩:=hraw
  have hl':inner'.length=xs.length*d.sz:=by have:=hr'.1;rw [List.length_set,List.length_map,List.length_range] at this;exact this
  rw [List.length_set,List.length_map,List.length_range] at ho'
  refine⟨hoo,f,hok0,inner',by rw [List.length_zipIdx];exact ho',by rw [List.length_zipIdx];exact hl',fun m p hm=>?_⟩
  rw [List.getElem?_zipIdx,Nat.zero_add] at hm
  obtain⟨q,hq,rfl⟩:=Option.map_eq_some_iff.1 hm
  have hml:m<xs.length:=(List.getElem?_eq_some_iff.1 hq).1
  have hold:=hr.2 m (q,m) (zip_at hq)
  refine⟨fun hx=>?_,fun hx=>?_⟩
  ·have hx':m=i.toNat:=hx
   subst hx'
   exact hr'.2 i.toNat c' (List.getElem?_set_self (by rw [List.length_map,List.length_range];exact hml))
  ·have hx':m≠i.toNat:=hx
   have hcm:=(hr'.2 m ((inner.drop (m*d.sz)).take d.sz) (by
    rw [List.getElem?_set_ne (Ne.symm hx'),List.getElem?_map,List.getElem?_eq_getElem (by rw [List.length_range];exact hml),List.getElem_range]
    rfl)).1
   show d.M w1 base _ q ((inner'.drop (m*d.sz)).take d.sz)
   rw [show (inner'.drop (m*d.sz)).take d.sz=_ from hcm]
   exact d.M_mono (fun k hk=>hk.1) (d.M_move (w1:=w1) (fun k hk=>hg.block k hk.2.2.1 (fun he=>hkg k hk.1.1.2 (by injection he))) (d.M_bound (hold.2 hx)))
theorem H_seg (h:H d e W base ok (.slice (some ⟨g,0,none⟩) n cap) xs i oki c)(h0:0<=i)(h1:i<n){seg:List Value}{j:Nat}(hj:j+seg.length<=d.sz)(hone:∀ q∈seg,q.oneCell'=true) :
  H d e (W.setCells g (i.toNat*d.sz+j) seg) base ok (.slice (some ⟨g,0,none⟩) n cap) xs i oki (c.take j++seg++c.drop (j+seg.length))/\W.grownBy (W.setCells g (i.toNat*d.sz+j) seg) (some g):=by
 obtain⟨rows,_,hraw,hcl,hco,hcc,hback⟩:=H_raw h h0 h1
 obtain⟨h2,h3⟩:=R_seg hraw i h0 h1 (c:=c) (seg:=seg) (j:=j) (x':=c.take j++seg++c.drop (j+seg.length)) (okp:=fun _=>False) hcl hcc hj
  ⟨rfl,by
   show (c.take j++seg++c.drop (j+seg.length)).length=d.sz
   simp only [List.length_append,List.length_take,List.length_drop];omega,fun u hu=>by
   rcases List.mem_append.1 hu with hu | hu
   ·rcases List.mem_append.1 hu with hu | hu
    ·exact hco u (List.mem_of_mem_take hu)
    ·exact hone u hu
   ·exact hco u (List.mem_of_mem_drop hu)⟩ (fun _ hk=>hk.elim)
 exact⟨hback _ _ h3 h2,h3⟩
theorem S_seg {okg:Nat->Prop}(hH:H d e W base (fun k=>ok k/\¬ okg k) (.slice (some ⟨g,0,none⟩) n cap) xs i oki c)(h0:0<=i)(h1:i<n){seg:List Value}{j:Nat}(hj:j+seg.length<=d.sz)
  {x':α} (hM:d.M W base okp x' (c.take j++seg++c.drop (j+seg.length))) (hokp:∀ k,okp k->oki k\/okg k) (hg:∀ k,okg k->ok k/\k≠g) :
  S d e (W.setCells g (i.toNat*d.sz+j) seg) base ok (.slice (some ⟨g,0,none⟩) n cap) (xs.set i.toNat x')/\W.grownBy (W.setCells g (i.toNat*d.sz+j) seg) (some g):=by
 have hne:∀ k,oki k\/okg k->k≠g:=by
  intro k hk he
  subst he
  rcases hk with hk | hk
  ·obtain⟨_,f,hR⟩:=hH
   exact (hR.1 k (by simp [Value.ownBlock])).2 hk
  ·exact (hg k hk).2 rfl
 obtain⟨h2,h3⟩:=H_seg (H_more hH (fun k hk=>(hg k hk).1)) h0 h1 hj (fun q hq=>d.K_one (d.K_of_M hM) q (List.mem_append_left _ (List.mem_append_right _ hq)))
 exact⟨H_back h2 (M_step hM (fun k hk hlt=>h3.block k hlt (fun he=>hne k (hokp k hk) (by injection he)))) hokp,h3⟩
end
end Kd
end Go.Proofs.YtgccjgpdjkhpdaaGreatW.PrintWords
namespace Go.Proofs.YtgccjgpdjkhpdaaGreatW.PrintWords
open Go.RowKit
section
variable {P:Program}
theorem run_append_zeros (w:World)(base:Nat)(t ti ty e:TypeId)(i:TypeInfo)(z:Value)(size bytes:Nat)(ht:P.underlying t=some (.slice e)){k:IntKind}(hti:P.underlying ti=some (.int k))(hi:P.info? e=some i)(hz:i.zero=some z)
  (hsize:i.size=size) (hby:i.bytes=bytes) (hzs:z.cells.size=size) (hsz:0<size) (hb0:0<bytes)
  (v:Value) (n:Nat) (xs:List Value) (hown:w.ownsRow base e size v n xs) (kx:IntKind) (m:Nat) (h1:∀ u∈(Builtin.zeroCells z.cells m).toList,u.oneCell'=true)
  (hbytes:(n+m)*bytes<=140737488355328) (hbase:base<=w.heap.size) :
  ∃ v' w',(Builtin.append_ #[t,ti] ty #[v,.int kx m]).run P w=.ok v' w'/\w'.ownsRow base e size v' (n+m) (xs++(Builtin.zeroCells z.cells m).toList)/\w.grownBy w' v.ownBlock/\
   (v'.ownBlock=v.ownBlock\/v'.ownBlock=some w.heap.size):=by
 subst hsize
 subst hby
 have hle:n+m<=140737488355328:=Nat.le_trans (Nat.le_mul_of_pos_right _ hb0) hbytes
 have h63:n+m<=maxLen:=by simp only [maxLen];omega
 have hw:IntKind.i64.wrap (m:Int)=m:=by rw [IntKind.wrap_i64];omega
 have hw0:IntKind.i64.wrap 0=0:=by rw [IntKind.wrap_i64];rfl
 have hneg:¬ ((m:Int)<0):=by omega
 have hmb:m*i.bytes<=140737488355328:=Nat.le_trans (Nat.mul_le_mul_right _ (Nat.le_add_left m n)) hbytes
 have hbig:¬ (281474976710656<(m:Int)*(i.bytes:Int)):=by
  rw [<- Int.natCast_mul]
  omega
 have hsn:i.size≠0:=by omega
 obtain⟨news,hnews⟩:∃ news,news=(Builtin.zeroCells z.cells m).toList:=⟨_,rfl⟩
 rw [<- hnews] at h1 ⊢
 have hl:news.length=m*i.size:=by rw [hnews,Array.length_toList,size_zeroCells,hzs]
 have hna:Builtin.zeroCells z.cells m=news.toArray:=by rw [hnews]
 have hlen:(xs++news).length=(n+m)*i.size:=by rw [List.length_append,hown.1,hl,Nat.add_mul]
 have hnil:m=0->news=[]:=fun h=>List.eq_nil_of_length_eq_zero (by rw [hl,h,Nat.zero_mul])
 have grown:∀ (old:Nat),old<n+m->∀ (row:Option Nat),
   (w.drew.alloc (.cells (xs.toArray++news.toArray++Builtin.zeroCells z.cells (grownCap w (n+m) old e-(n+m))) e)).ownsRow base e i.size
    (.slice (some ⟨w.heap.size,0,none⟩) (n+m) (grownCap w (n+m) old e)) (n+m) (xs++news)/\
   w.grownBy (w.drew.alloc (.cells (xs.toArray++news.toArray++Builtin.zeroCells z.cells (grownCap w (n+m) old e-(n+m))) e)) row:=by
  intro old ho row
  have hge:=grownCap_ge w (n+m) old e
  have hcm:grownCap w (n+m) old e<=maxLen:=grownCap_le_maxLen w (n+m) old e h63
  refine⟨⟨hlen,.inr ⟨w.heap.size,_,_,rfl,hbase,heap_alloc_new w.drew _,hge,hcm,?_,?_⟩⟩,⟨rfl,rfl,rfl,by simp,fun k hk _=>heap_alloc_old w.drew _ hk⟩⟩
  ·simp only [Array.size_append,List.size_toArray,size_zeroCells,hzs,hown.1,hl,<- Nat.add_mul]
   congr 1
   omega
  ·simp only [Array.toList_append,List.append_assoc]
   rw [<- List.append_assoc,<- hlen]
   exact List.take_left
 have runs:∀ (A:Option Addr) (cap:Nat),cap<n+m->(Builtin.firstCells i.size n (.slice A n cap)).run P w.drew=.ok xs.toArray w.drew->(Builtin.append_ #[t,ti] ty #[.slice A n cap,.int kx m]).run P w =
   .ok (.slice (some ⟨w.heap.size,0,none⟩) (n+m) (grownCap w (n+m) cap e)) (w.drew.alloc (.cells (xs.toArray++news.toArray++Builtin.zeroCells z.cells (grownCap w (n+m) cap e-(n+m))) e)):=by
  intro A cap hcap hfo
  have hn:¬ (n+m<=cap):=by omega
  have h63':¬ (9223372036854775807<((n:Int)+(m:Int))):=by omega
  have hfit:=growslice_fits hcap hbytes
  have h48':¬ (281474976710656<Builtin.nextslicecap (n+m) cap*i.bytes):=by omega
  by_cases hm:m=0
  ·have hnl:=hnil hm
   subst hm
   rw [hnl]
   simp only [Nat.add_zero] at hn h63' h48' ⊢
   have h63'':¬ (9223372036854775807<(n:Int)):=by omega
   simp [Builtin.append_,run_underlying ht,run_underlying hti,sizeOf,typeInfo,zeroValue,hi,hz,asInt,asIntOf,hw0,hn,h63'',h48',Question.forced,hfo,newRow,grownCap]
  ·have hmz:¬ (m*i.size=0):=Nat.mul_ne_zero hm hsn
   simp [Builtin.append_,run_underlying ht,run_underlying hti,sizeOf,typeInfo,zeroValue,hi,hz,asInt,asIntOf,hw,hneg,hbig,hn,h63',h48',Question.forced,hfo,newRow,grownCap,hmz,hna]
   congr 2
   apply Array.ext'
   simp [List.append_assoc]
 rcases hown.2 with⟨rfl,rfl⟩ | ⟨g,cap,cur,rfl,hbg,hg,hnc,hcm,hcs,htake⟩
 ·have hx:xs=[]:=List.eq_nil_of_length_eq_zero (by simpa using hown.1)
  subst hx
  by_cases hm:m=0
  ·have hnl:=hnil hm
   subst hm
   rw [hnl]
   refine⟨.slice none 0 0,w,?_,World.ownsRow_nil w base e i.size,⟨rfl,rfl,rfl,Nat.le_refl _,fun _ _ _=>rfl⟩,Or.inl rfl⟩
   simp [Builtin.append_,run_underlying ht,run_underlying hti,sizeOf,typeInfo,hi,asInt,asIntOf,hw0]
  ·have hgr:=grown 0 (by omega) (Value.ownBlock (.slice none 0 0))
   exact⟨_,_,runs none 0 (by omega) (by simp [Builtin.firstCells]),hgr.1,hgr.2,Or.inr rfl⟩
 ·by_cases hroom:n+m<=cap
  ·have hfit:n*i.size+news.length<=cur.size:=by rw [hl,hcs,<- Nat.add_mul];exact Nat.mul_le_mul_right _ hroom
   obtain⟨cur',h3,h4,h5⟩:=setCells_row news (n*i.size) w cur hg hfit
   obtain⟨s1,s2,s3,s4⟩:=setCells_same g news (n*i.size) w
   have hst:=run_storeCells_cells (P:=P) g (n*i.size) news 0 w (fun j hj=>by rw [cell_of_row w g _ cur e (0,0) hg];simp;omega) (fun j _=>blk_frozen hg _) h1
   simp only [Nat.add_zero] at hst
   refine⟨.slice (some ⟨g,0,none⟩) (n+m) cap,w.setCells g (n*i.size) news,?_,⟨hlen,.inr ⟨g,cap,cur',rfl,hbg,h3,hroom,hcm,by rw [h4,hcs],?_⟩⟩,⟨s1,s2,s3,by rw [s4];exact Nat.le_refl _,fun k _ hk=>setCells_far news _ k (fun e=>hk (by simp [Value.ownBlock,e]))⟩,Or.inl rfl⟩
   ·by_cases hm:m=0
    ·have hnl:=hnil hm
     subst hm
     rw [hnl] at hst ⊢
     simp [Builtin.append_,run_underlying ht,run_underlying hti,sizeOf,typeInfo,hi,asInt,asIntOf,hw0,hnc,add_plain,hst]
    ·have hmz:¬ (m*i.size=0):=Nat.mul_ne_zero hm hsn
     simp [Builtin.append_,run_underlying ht,run_underlying hti,sizeOf,typeInfo,zeroValue,hi,hz,asInt,asIntOf,hw,hneg,hbig,hroom,hmz,hna,add_plain,hst]
   ·rw [h5]
    have h6:cur.toList.take (n*i.size)=xs:=htake
    rw [h6,<- hlen]
    exact List.take_left
  ·have holds:∀ j u,xs[j]? = some u->w.cell? ((⟨g,0,none⟩:Addr).add j)=some u:=hown.cells (g:=g) rfl
   have hgr:=grown cap (by omega) (Value.ownBlock (.slice (some ⟨g,0,none⟩) n cap))
   exact⟨_,_,runs (some ⟨g,0,none⟩) cap (by omega) (run_firstCells_some (P:=P) w.drew i.size n _ n cap xs hown.1 (by simpa using holds)),hgr.1,hgr.2,Or.inr rfl⟩
end
namespace Kd
theorem reps_zeros {α:Type}{R:α->List Value->Prop}{z:Value}{size:Nat}{z0:α}(hz:z.cells.size=size)(hs:0<size)(h0:R z0 z.cells.toList)(m:Nat):Reps R size (List.replicate m z0) (Builtin.zeroCells z.cells m).toList:=by
 have h:=reps_made hz hs h0 m
 rw [show Builtin.zeroCells z.cells m=madeCells z.cells (m*size) by unfold Builtin.zeroCells madeCells;rw [hz]]
 exact h
section
variable {P:Program} {ops:Array Oper} {rest:List Oper} {o:Oper} {a:Act} {Q:Exit->Act->World->Prop} {Kc:Act->World->Prop} {α:Type}
theorem R_zeros_run (d:Kd α){W:World}(base:Nat)(t ti ty e:TypeId)(z:Value)(bytes:Nat)(ht:P.underlying t=some (.slice e)){k:IntKind}(hti:P.underlying ti=some (.int k))(hinfo:(P.info? e).map (fun i=>(i.zero,i.size,i.bytes))=some (some z,d.sz,bytes))(hz:z.cells.size=d.sz)(hs0:0<d.sz)(hb0:0<bytes)
  (v:Value) (xs:List α) (z0:α) {ok:Nat->Prop} (hzero:d.M W base (fun _=>False) z0 z.cells.toList) (hfresh:∀ k,W.heap.size<=k->ok k) (HO:d.R e W base ok v xs) (kx:IntKind) (n:Int) (h0:0<=n) (hl:(xs.length+n.toNat)*bytes<=140737488355328) (hbase:base<=W.heap.size) :
  ∃ v1 w1,(Builtin.append_ #[t,ti] ty #[v,.int kx n]).run P W=.ok v1 w1/\d.R e w1 base ok v1 (xs++List.replicate n.toNat z0)/\W.grownBy w1 v.ownBlock/\(v1.ownBlock=v.ownBlock\/∃ b,v1.ownBlock=some b/\W.heap.size<=b):=by
 obtain⟨m,rfl⟩:=Int.eq_ofNat_of_zero_le h0
 simp only [Int.toNat_natCast] at hl ⊢
 obtain⟨i0,hi,hzz⟩:=Option.map_eq_some_iff.1 hinfo
 simp only [Prod.mk.injEq] at hzz
 obtain⟨hz0,hz1,hz2⟩:=hzz
 obtain⟨hok,inner,hown,hr⟩:=HO
 have hnM:Reps (d.M W base (fun _=>False)) d.sz (List.replicate m z0) (Builtin.zeroCells z.cells m).toList:=reps_zeros hz hs0 hzero m
 obtain⟨v1,w1,hrun,h2,hg,hat⟩:=run_append_zeros (P:=P) W base t ti ty e i0 z d.sz bytes ht hti hi hz0 hz1 hz2 hz hs0 hb0 v xs.length inner hown kx m (reps_one hnM hs0 (fun _ _ hp=>d.K_one (d.K_of_M hp))) hl hbase
 have hat':v1.ownBlock=v.ownBlock\/∃ b,v1.ownBlock=some b/\W.heap.size<=b:=by
  rcases hat with hat | hat
  ·exact .inl hat
  ·exact .inr ⟨_,hat,Nat.le_refl _⟩
 have hne:∀ k,some k≠v.ownBlock->k<W.heap.size->some k≠v1.ownBlock:=by
  intro k hk hlt
  rcases hat' with hat | ⟨b,hb,hle⟩
  ·rw [hat];exact hk
  ·rw [hb]
   intro he
   injection he with he
   omega
 have step:∀ {q:α} {c:List Value} {o:Nat->Prop},d.M W base o q c->(∀ k,o k->ok k/\some k≠v.ownBlock)->d.M w1 base (fun k=>ok k/\some k≠v1.ownBlock) q c:=by
  intro q c o hq ho
  have h1:=d.M_move (w1:=w1) (fun k hk=>hg.block k hk.2.2.1 (ho k hk.1).2) (d.M_bound hq)
  exact d.M_mono (fun k hk=>⟨(ho k hk.1).1,hne k (ho k hk.1).2 hk.2.2.1⟩) h1
 refine⟨v1,w1,hrun,⟨fun k hk=>?_,inner++(Builtin.zeroCells z.cells m).toList,by rw [List.length_append,List.length_replicate];exact h2,reps_append (hr.imp_ (fun _ _ hq=>step hq (fun _ hk=>hk))) (hnM.imp_ (fun _ _ hq=>step hq (fun _ hk=>hk.elim)))⟩,hg,hat'⟩
 rcases hat' with hat | ⟨b,hb,hle⟩
 ·exact hok k (hat ▸ hk)
 ·rw [hb] at hk
  injection hk with hk
  exact hfresh k (by omega)
theorem R_append_zeros (d:Kd α){w0 W:World}(base:Nat)(hgd:o.guard=none)(s x:Operand)(t ti e:TypeId)(z:Value)(bytes:Nat)
  (ho:o.op=.call { callee:=.builtin .append,args:=#[s,x],argTypes:=#[t,ti] })
  (ht:P.underlying t=some (.slice e)) {k:IntKind} (hti:P.underlying ti=some (.int k)) (hinfo:(P.info? e).map (fun i=>(i.zero,i.size,i.bytes))=some (some z,d.sz,bytes)) (hz:z.cells.size=d.sz) (hs0:0<d.sz) (hb0:0<bytes)
  (v:Value) (xs:List α) (z0:α) {kx:IntKind} (n:Int) (ok:Nat->Prop) (hs:a.eval s=v) (hx:a.eval x=.int kx n) (hzero:d.M W base (fun _=>False) z0 z.cells.toList) (hfresh:∀ k,W.heap.size<=k->ok k)
  (HO:d.R e W base ok v xs) (h0:0<=n) (HB:Below base w0 W) (hbase:base<=W.heap.size) (hl:(xs.length+n.toNat)*bytes<=140737488355328)
  (h:∀ v1 w1,d.R e w1 base ok v1 (xs++List.replicate n.toNat z0)->Below base w0 w1->W.grownBy w1 v.ownBlock->(v1.ownBlock=v.ownBlock\/∃ b,v1.ownBlock=some b/\W.heap.size<=b)->wpList P ops Q rest (a.put o.dst v1) w1) :
  wpList P ops Q (o :: rest) a W:=by
 obtain⟨v1,w1,hr1,h1,hg,hat⟩:=R_zeros_run (P:=P) d base t ti o.type e z bytes ht hti hinfo hz hs0 hb0 v xs z0 hzero hfresh HO kx n h0 hl hbase
 refine wpList_plain hgd fun K hK=>?_
 unfold Oper.wp execOp
 simp only [ho,resolve,invoke,builtin,Sem.run_bind,Sem.run_pure,Result.andThen_ok,List.map_toArray,List.map_cons,List.map_nil,hs,hx,hr1]
 exact hK _ _ (h v1 w1 h1 (HB.grown hg hbase (R_base HO)) hg hat)
end
end Kd
end Go.Proofs.YtgccjgpdjkhpdaaGreatW.PrintWords
namespace Go.Proofs.YtgccjgpdjkhpdaaGreatW.PrintWords
open Go.RowKit
namespace Kd
structure Heap {α:Type}(d:Kd α):Prop where
 K:∀ {w w1:World} {x:α} {cs:List Value},(∀ k,k<w.heap.size->w1.heap[k]? = w.heap[k]?)->d.K w x cs->d.K w1 x cs
theorem cell_heap {w w1:World}(hb:∀ k,k<w.heap.size->w1.heap[k]? = w.heap[k]?){a:Addr}{v:Value}(h:w.cell? a=some v):w1.cell? a=some v:=by
 have:=hb a.block (World.block_lt_of_cell? w a h)
 simpa [World.cell?,this] using h
theorem Heap.C {α:Type}{d:Kd α}(hd:Heap d){w w1:World}{A:Option Addr}{n:Nat}{xs:List α}(hb:∀ k,k<w.heap.size->w1.heap[k]? = w.heap[k]?)(h:d.C w A n xs):d.C w1 A n xs :=
 ⟨h.1,h.2.1,fun hn=>by
  obtain⟨ad,e,hc⟩:=h.2.2 hn
  refine⟨ad,e,fun j p hj=>?_⟩
  obtain⟨c,hs,hr,hcell⟩:=hc j p hj
  exact⟨c,hs,hd.K hb hr,fun i u hu=>cell_heap hb (hcell i u hu)⟩⟩
end Kd
end Go.Proofs.YtgccjgpdjkhpdaaGreatW.PrintWords
namespace Go.Proofs.YtgccjgpdjkhpdaaGreatW.PrintWords
open Go.RowKit
def Kept (w W:World)(S:Nat->Prop):Prop:=w.heap.size<=W.heap.size/\∀ i,i<w.heap.size->¬ S i->W.heap[i]? = w.heap[i]?
section
variable {w W W2:World} {S S2 S':Nat->Prop}
theorem Kept.refl (w:World)(S:Nat->Prop):Kept w w S:=⟨Nat.le_refl _,fun _ _ _=>rfl⟩
theorem Kept.of_below (h:Below w.heap.size w W)(S:Nat->Prop):Kept w W S:=⟨h.size,fun i hi _=>h.block i hi⟩
theorem Kept.mono (h:Kept w W S)(hs:∀ k,S k->S' k):Kept w W S':=⟨h.1,fun i hi hn=>h.2 i hi (fun hk=>hn (hs i hk))⟩
theorem Kept.then_ (h:Kept w W S)(k:Kept W W2 S2)(hs:∀ k,S2 k->S k\/w.heap.size<=k):Kept w W2 S :=
 ⟨Nat.le_trans h.1 k.1,fun i hi hn=>(k.2 i (Nat.lt_of_lt_of_le hi h.1) (fun h2=>(hs i h2).elim hn (fun h3=>by omega))).trans (h.2 i hi hn)⟩
theorem Kept.below (h:Kept w W S)(hb:Below W.heap.size W W2):Kept w W2 S:=h.then_ (Kept.of_below hb (fun _=>False)) (fun _ hk=>hk.elim)
theorem Kept.alloc (h:Kept w W S)(o:Obj):Kept w (W.alloc o) S:=h.below (below_alloc (Below.refl _ _) o)
theorem Kept.drew (h:Kept w W S):Kept w W.drew S:=h
theorem Kept.drewN (h:Kept w W S)(m:Nat):Kept w (W.drewN m) S:=h
theorem Kept.setCell (h:Kept w W S){p:Addr}(hp:S p.block\/w.heap.size<=p.block)(u:Value):Kept w (W.setCell p u) S :=
 h.then_ (S2:=fun k=>k=p.block) ⟨by simp [World.setCell],fun i _ hn=>Below.heap_setCell W p u i hn⟩ (fun k hk=>by rw [hk];exact hp)
theorem blk_kept {g:Nat}{o:Obj}(hb:W.heap[g]? = some o)(hk:Kept W W2 S)(hne:¬ S g):W2.heap[g]? = some o:=(hk.2 g (blk_lt hb) hne).trans hb
end
end Go.Proofs.YtgccjgpdjkhpdaaGreatW.PrintWords
namespace Go.Proofs.YtgccjgpdjkhpdaaGreatW.PrintWords
open Go.RowKit
def Foot (P:World->Prop)(W:World)(ok:Nat->Prop):Prop:=∀ W':World,(∀ k,ok k->k<W.heap.size->W'.heap[k]? = W.heap[k]?)->P W'
theorem heap_lt {W W1:World}{k:Nat}(h:W1.heap[k]? = W.heap[k]?)(hlt:k<W.heap.size):k<W1.heap.size:=by
 rw [Array.getElem?_eq_getElem hlt] at h
 exact (Array.getElem?_eq_some_iff.1 h).1
namespace Foot
variable {P Q:World->Prop} {W W1:World} {ok ok':Nat->Prop}
theorem mono (h:Foot P W ok)(hok:∀ k,ok k->ok' k):Foot P W ok':=fun W' hW=>h W' (fun k hk hlt=>hW k (hok k hk) hlt)
theorem bound (h:Foot P W ok):Foot P W (fun k=>ok k/\k<W.heap.size):=fun W' hW=>h W' (fun k hk hlt=>hW k ⟨hk,hlt⟩ hlt)
theorem step (h:Foot P W ok)(hm:∀ k,ok k->k<W.heap.size->W1.heap[k]? = W.heap[k]?):Foot P W1 ok:=fun W' hW=>h W' (fun k hk hlt=>(hW k hk (heap_lt (hm k hk hlt) hlt)).trans (hm k hk hlt))
theorem old (h:Foot P W ok)(hb:Below W.heap.size W W1):Foot P W1 (fun k=>ok k/\k<W.heap.size):=(h.bound).step (fun k _ hlt=>hb.block k hlt)
end Foot
namespace Kd
def F {α:Type}(d:Kd α)(W:World)(ok:Nat->Prop)(A:Option Addr)(n:Nat)(xs:List α):Prop:=Foot (fun W=>d.C W A n xs) W ok
def FK {α:Type}(d:Kd α)(W:World)(ok:Nat->Prop)(x:α)(c:List Value):Prop:=Foot (fun W=>d.K W x c) W ok
section
variable {α β:Type} {d:Kd α} {e base n n' cc g N:Nat} {ok ok' okp S:Nat->Prop} {w w0 w1 W W1:World} {A A':Option Addr} {u v v1:Value} {xs:List α} {xs':List β} {d':Kd β} {x:α} {c:List Value}
theorem F_nil (d:Kd α)(W:World)(ok:Nat->Prop):F d W ok none ([]:List α).length []:=fun W' _=>C_nil d W'
theorem FK_of_M (h:d.M W base ok x c):FK d W ok x c:=fun _ hW=>d.K_of_M (M_step h hW)
end
end Kd
end Go.Proofs.YtgccjgpdjkhpdaaGreatW.PrintWords
namespace Go.Proofs.YtgccjgpdjkhpdaaGreatW.PrintWords
open Go.RowKit
namespace Kd
def chunks (sz:Nat)(n:Nat)(inner:List Value):List (List Value):=(List.range n).map fun j=>(inner.drop (j*sz)).take sz
theorem chunks_length (sz n:Nat)(inner:List Value):(chunks sz n inner).length=n:=by simp [chunks]
theorem chunks_at {sz n:Nat}{inner:List Value}{j:Nat}(hj:j<n):(chunks sz n inner)[j]? = some ((inner.drop (j*sz)).take sz):=by simp [chunks,hj]
theorem chunks_get {sz n:Nat}{inner:List Value}{j:Nat}{c:List Value}(h:(chunks sz n inner)[j]? = some c):c=(inner.drop (j*sz)).take sz:=by
 have hj:j<n:=by have:=(List.getElem?_eq_some_iff.1 h).1;rwa [chunks_length] at this
 rw [chunks_at hj] at h
 injection h with h
 exact h.symm
theorem reps_raw {α:Type}{Rr:α->List Value->Prop}{sz:Nat}{xs:List α}{inner:List Value}(h:Reps Rr sz xs inner)(hR:∀ x c,Rr x c->c.length=sz/\∀ u∈c,u.oneCell'=true):Reps (fun x cs=>cs=x/\cs.length=sz/\∀ u∈cs,u.oneCell'=true) sz (chunks sz xs.length inner) inner:=by
 refine⟨by rw [chunks_length];exact h.1,fun j p hj=>?_⟩
 have hjl:j<xs.length:=by have:=(List.getElem?_eq_some_iff.1 hj).1;rwa [chunks_length] at this
 have hp:=chunks_get hj
 exact⟨hp.symm,hR _ _ (h.2 j _ (List.getElem?_eq_getElem hjl))⟩
section
variable {α:Type} {d:Kd α} {e base n cc g:Nat} {ok ok' okp S:Nat->Prop} {w w1 W W1:World} {A:Option Addr} {u v v1:Value} {xs:List α} {x:α} {c:List Value}
def N {α:Type}(d:Kd α)(e:Nat)(w:World)(base:Nat)(ok:Nat->Prop)(v:Value)(xs:List α):Prop :=
 (∀ k,v.ownBlock=some k->ok k)/\∃ rows:List (List Value),rows.length=xs.length/\(raw d.sz).R e w base (fun k=>some k=v.ownBlock) v rows/\∀ (j:Nat) (x:α) (c:List Value),xs[j]? = some x->rows[j]? = some c->FK d w (fun k=>ok k/\some k≠v.ownBlock) x c
theorem R_N (h:d.R e w base ok v xs):N d e w base ok v xs:=by
 obtain⟨h0,inner,ho,hr⟩:=h
 refine⟨h0,chunks d.sz xs.length inner,chunks_length _ _ _,⟨fun k hk=>hk.symm,inner,by rw [chunks_length];exact ho,reps_raw hr (fun x c hp=>⟨d.K_len (d.K_of_M hp),d.K_one (d.K_of_M hp)⟩)⟩,fun j x c hx hc=>?_⟩
 rw [chunks_get hc]
 exact FK_of_M (hr.2 j x hx)
theorem N_nil (d:Kd α)(e:Nat)(w:World)(base:Nat)(ok:Nat->Prop):N d e w base ok (.slice none 0 0) []:=R_N (R_nil _ _ _ _ _)
end
end Kd
end Go.Proofs.YtgccjgpdjkhpdaaGreatW.PrintWords
namespace Go.Proofs.YtgccjgpdjkhpdaaGreatW.PrintWords
open Go.RowKit
theorem own_apart {v1 v2:Value}{n:Nat}(hlt:∀ k,v1.ownBlock=some k->k<n)(hge:∀ k,v2.ownBlock=some k->n<=k):v1.ownBlock=none\/v1.ownBlock≠v2.ownBlock:=by
 cases h:v1.ownBlock with
 | none=>exact .inl rfl
 | some k=>exact .inr (fun e=>by have:=hlt k h;have:=hge k e.symm;omega)
end Go.Proofs.YtgccjgpdjkhpdaaGreatW.PrintWords
namespace Go.Proofs.YtgccjgpdjkhpdaaGreatW.PrintMore
open Go.RowKit Go.Proofs.YtgccjgpdjkhpdaaGreatW.PrintWords
theorem max2_int (k k':IntKind)(x y:Int):Builtin.max2 (.int k x) (.int k' y)=pure (.int k (if x<y then y else x)):=by simp only [Builtin.max2,gt_iff_lt]
theorem min2_int (k k':IntKind)(x y:Int):Builtin.min2 (.int k x) (.int k' y)=pure (.int k (if y<x then y else x)):=by simp only [Builtin.min2]
theorem max_two (ats:Array TypeId)(ty:TypeId)(a b:Value):Builtin.max_ ats ty #[a,b]=(Builtin.max2 a b >>= fun s=>pure s):=by simp only [Builtin.max_,List.foldlM_cons,List.foldlM_nil]
theorem min_two (ats:Array TypeId)(ty:TypeId)(a b:Value):Builtin.min_ ats ty #[a,b]=(Builtin.min2 a b >>= fun s=>pure s):=by simp only [Builtin.min_,List.foldlM_cons,List.foldlM_nil]
theorem max_three (ats:Array TypeId)(ty:TypeId)(a b c:Value):Builtin.max_ ats ty #[a,b,c]=(Builtin.max2 a b >>= fun s=>Builtin.max2 s c >>= fun s=>pure s):=by simp only [Builtin.max_,List.foldlM_cons,List.foldlM_nil]
theorem min_three (ats:Array TypeId)(ty:TypeId)(a b c:Value):Builtin.min_ ats ty #[a,b,c]=(Builtin.min2 a b >>= fun s=>Builtin.min2 s c >>= fun s=>pure s):=by simp only [Builtin.min_,List.foldlM_cons,List.foldlM_nil]
theorem max_four (ats:Array TypeId)(ty:TypeId)(a b c d:Value):Builtin.max_ ats ty #[a,b,c,d]=(Builtin.max2 a b >>= fun s=>Builtin.max2 s c >>= fun s=>Builtin.max2 s d >>= fun s=>pure s):=by simp only [Builtin.max_,List.foldlM_cons,List.foldlM_nil]
theorem min_four (ats:Array TypeId)(ty:TypeId)(a b c d:Value):Builtin.min_ ats ty #[a,b,c,d]=(Builtin.min2 a b >>= fun s=>Builtin.min2 s c >>= fun s=>Builtin.min2 s d >>= fun s=>pure s):=by simp only [Builtin.min_,List.foldlM_cons,List.foldlM_nil]
end Go.Proofs.YtgccjgpdjkhpdaaGreatW.PrintMore
namespace Go.Proofs.YtgccjgpdjkhpdaaGreatW.PrintWords
open Go.RowKit
section
variable {P:Program} {ops:Array Oper} {rest:List Oper} {o:Oper} {a:Act} {Q:Exit->Act->World->Prop} {W:World}
theorem gate_callee {f:FuncId}{as:Array Operand}{ts:Array TypeId}(_ho:o.op=.call { callee:=.value (.func f),args:=as,argTypes:=ts })(h:wpList P ops Q (o :: rest) a W):wpList P ops Q (o :: rest) a W:=h
theorem gate_builtin {b:Builtin}{xs:Array Operand}{ts:Array TypeId}(_ho:o.op=.call { callee:=.builtin b,args:=xs,argTypes:=ts })(h:wpList P ops Q (o :: rest) a W):wpList P ops Q (o :: rest) a W:=h
end
def mx (a b:Int):Int:=if a<b then b else a
def mn (a b:Int):Int:=if b<a then b else a
def shl (k:IntKind)(x y:Int):Int:=k.wrap (x*2 ^ min y.toNat k.bits)
def shr (k:IntKind)(x y:Int):Int:=x/2 ^ min y.toNat k.bits
theorem shl_small {k:IntKind}{x y j:Int}(h:shl k x y=j)(hy:y<=k.bits):k.wrap (x*2 ^ y.toNat)=j:=by rw [<- h];unfold shl;rw [Nat.min_eq_left (by omega)]
theorem shr_small {k:IntKind}{x y j:Int}(h:shr k x y=j)(hy:y<=k.bits):x/2 ^ y.toNat=j:=by rw [<- h];unfold shr;rw [Nat.min_eq_left (by omega)]
theorem drewN_self (w:World)(n:Nat):w.drewN n=w.drewN n:=rfl
end Go.Proofs.YtgccjgpdjkhpdaaGreatW.PrintWords
namespace Go.Proofs.YtgccjgpdjkhpdaaGreatW.PrintWords
open Go.RowKit
namespace Kd
def V {α:Type}(d:Kd α)(_e:Nat)(W:World)(_base:Nat)(ok:Nat->Prop)(v:Value)(xs:List α):Prop:=∃ A c,v=.slice A xs.length c/\xs.length<=c/\F d W ok A xs.length xs
section
variable {α β:Type} {d:Kd α} {e base base' n m c g N' lo hi:Nat} {ok ok' S:Nat->Prop} {w W w1:World} {A:Option Addr} {ad:Addr} {u v v1:Value} {xs:List α}
theorem V_nil (d:Kd α)(e:Nat)(W:World)(base:Nat)(ok:Nat->Prop):V d e W base ok (.slice none 0 0) []:=⟨none,0,rfl,Nat.le_refl _,F_nil d W ok⟩
end
end Kd
end Go.Proofs.YtgccjgpdjkhpdaaGreatW.PrintWords
