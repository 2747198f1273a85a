import Derived.Test.YtgccjgpdjkhpdaaGreatVErrors0
open List renaming length_zipIdx→Mw,length_range→Mx,getElem?_eq_getElem→Mz,length_map→MA,foldlM_cons→MB,foldlM_nil→MC,getElem?_zipIdx→MD,length_set→ME
open Nat renaming zero_add→My
/-! Own texts of this claim, part 1. -/
namespace Go.Proofs.YtgccjgpdjkhpdaaGreatW.PrintWords
open Go.RowKit
namespace Kd
def tag {α:Type}(f:Nat->Nat)(d:Kd α):Kd (α×Nat) where
 sz:=d.sz
 E:=d.E
 K:=fun w x cs=>d.K w x.1 cs
 M:=fun w base ok x cs=>d.M w base (fun k=>ok k/\f k=x.2) x.1 cs
 K_len:=fun h=>d.K_len h
 K_one:=fun h=>d.K_one h
 K_below:=fun hb h=>d.K_below hb h
 K_of_M:=fun h=>d.K_of_M h
 M_mono:=fun hok h=>d.M_mono (fun k hk=>⟨hok k hk.1,hk.2⟩) h
 M_bound:=fun h=>d.M_mono (fun _ hk=>⟨⟨hk.1.1,hk.2⟩,hk.1.2⟩) (d.M_bound h)
 M_move:=fun hm h=>d.M_move (fun k hk=>hm k hk.1) h
 M_lower:=fun hb h=>d.M_lower hb h
def vR {α:Type}(d:Kd α):Kd α where
 sz:=d.sz
 E:=d.E
 K:=d.K
 M:=fun w base _ x cs=>d.M w base (fun _=>False) x cs
 K_len:=fun h=>d.K_len h
 K_one:=fun h=>d.K_one h
 K_below:=fun hb h=>d.K_below hb h
 K_of_M:=fun h=>d.K_of_M h
 M_mono:=fun _ h=>h
 M_bound:=fun h=>h
 M_move:=fun _ h=>d.M_move (fun _ hk=>hk.elim) h
 M_lower:=fun hb h=>d.M_lower hb h
def raw (sz:Nat):Kd (List Value) where
 sz:=sz
 E:=[]
 K:=fun _ x cs=>cs=x/\cs.length=sz/\∀ u∈cs,u.oneCell'=true
 M:=fun _ _ _ x cs=>cs=x/\cs.length=sz/\∀ u∈cs,u.oneCell'=true
 K_len:=fun h=>h.2.1
 K_one:=fun h=>h.2.2
 K_below:=fun _ h=>h
 K_of_M:=fun h=>h
 M_mono:=fun _ h=>h
 M_bound:=fun h=>h
 M_move:=fun _ h=>h
 M_lower:=fun _ h=>h
def S {α:Type}(d:Kd α)(e:Nat)(w:World)(base:Nat)(ok:Nat->Prop)(v:Value)(xs:List α):Prop:=∃ f,(tag f d).R e w base ok v xs.zipIdx
section
variable {α β:Type} {d:Kd α} {d':Kd β} {e e':Nat} {w w1 W:World} {base b:Nat} {ok ok' okv oku:Nat->Prop} {u v:Value} {xs:List α} {ys:List β}
theorem lD {xs:List α}{j:Nat}{p:α}(h:xs[j]? = some p):xs.zipIdx[j]? = some (p,j):=by rw [MD,h,My];rfl
theorem mA (h:S d e w base ok v xs):d.R e w base ok v xs:=by
 obtain⟨f,h0,inner,ho,hr⟩:=h;rw [Mw] at ho;exact⟨h0,inner,ho,by have:=hr.1;rw [Mw] at this;exact this,fun j p hj=>d.M_mono (fun _ hk=>hk.1) (hr.2 j (p,j) (lD hj))⟩
theorem vS {ad:Addr}{n cap:Nat}(h:d.R e w base ok (.slice (some ad) n cap) xs):∃ g,ad=⟨g,0,none⟩:=by
 obtain⟨_,inner,ho,hr⟩:=h;rcases ho.2 with⟨hv,_⟩ | ⟨g,cap',cur,hv,_⟩
 ·cases hv
 injection hv with ha _ _;injection ha with ha;exact⟨g,ha⟩
theorem BQ {ad:Addr}{n cap:Nat}(h:d.R e W base ok (.slice (some ad) n cap) xs)(z:α)(i:Int)(h0:0<=i)(h1:i<n) :
  ∃ c,c.length=d.sz/\d.M W base (fun k=>ok k/\some k≠(Value.slice (some ad) n cap).ownBlock) (xs.getD i.toNat z) c/\∀ j u,c[j]? = some u->W.cell? (ad.add (i.toNat*d.sz+j))=some u:=by
 obtain⟨g,rfl⟩:=vS h;obtain⟨c,hcl,hM,hcc,_⟩:=pQ h z i h0 h1;refine⟨c,hcl,d.M_mono (fun k hk=>⟨hk.1,fun he=>hk.2 (by simpa [Value.ownBlock] using he)⟩) hM,fun j u hu=>?_⟩;rw [vz,My];exact hcc j u hu
theorem vT (hE:d.E=[])(h:d.R e w base ok v xs):d.R e w base (fun k=>some k=v.ownBlock) v xs:=by
 obtain⟨h0,inner,ho,hr⟩:=h;refine⟨fun k hk=>hk.symm,inner,ho,hr.imp_ (fun p c hp=>d.M_mono (fun k hk=>?_) (d.M_bound hp))⟩;obtain⟨_,_,_,q,hq,_⟩:=hk;rw [hE] at hq;cases hq
theorem oD (h:S d e w base ok v xs)(hok:∀ k,ok k->ok' k):S d e w base ok' v xs:=by
 obtain⟨f,h⟩:=h;exact⟨f,eK h hok⟩
theorem BR (h:S d e w base ok v xs):S d e w base (fun k=>ok k/\base<=k/\k<w.heap.size/\∃ q,q∈e :: d.E/\∃ cells,w.heap[k]? = some (.cells cells q (0,0))) v xs:=by
 obtain⟨f,h⟩:=h;exact⟨f,mi h⟩
theorem BS (h:S d e w base ok v xs)(hm:∀ k,ok k->w1.heap[k]? = w.heap[k]?):S d e w1 base ok v xs:=by
 obtain⟨f,h⟩:=h;exact⟨f,ot h hm⟩
theorem vU {base':Nat}(h:S d e w base ok v xs)(hb:base'<=base):S d e w base' ok v xs:=by
 obtain⟨f,h⟩:=h;exact⟨f,fz h hb⟩
theorem BT (h:S d e w base ok v xs)(hm:∀ k,ok k->k<w.heap.size->w1.heap[k]? = w.heap[k]?):S d e w1 base ok v xs :=
 oD (BS (BR h) (fun k hk=>hm k hk.1 hk.2.2.1)) (fun _ hk=>hk.1)
theorem oE (h:S d e w base ok v xs)(hb:Below w.heap.size w w1):S d e w1 base ok v xs:=BT h (fun k _ hk=>hb.block k hk)
theorem ej (h:S d e w base ok v xs):S d e w.drew base ok v xs:=oE h (jM (Below.refl _ _))
theorem m8 (h:S d e w base ok v xs):∀ k,v.ownBlock=some k->∃ cells,w.heap[k]? = some (.cells cells e (0,0)):=Bz (mA h)
theorem vV (h:S d e W base ok u xs)(hbase:∀ k,v.ownBlock=some k->W.heap.size<=k)(hb:Below W.heap.size W w1):S d e w1 base (fun k=>ok k/\some k≠v.ownBlock) u xs:=by
 obtain⟨f,h⟩:=h;exact⟨f,BA h hbase hb⟩
theorem BU (h:(vR d).R e w base ok v xs):S d e w base ok v xs:=by
 obtain⟨h0,inner,ho,hr⟩:=h;refine⟨fun _=>0,h0,inner,by rw [Mw];exact ho,by rw [Mw];exact hr.1,fun j p hj=>?_⟩
 rw [MD,My] at hj;obtain⟨x,hx,rfl⟩:=Option.map_eq_some_iff.1 hj;exact d.M_mono (fun _ hk=>hk.elim) (hr.2 j x hx)
end
section
variable {α β:Type} {d:Kd α} {d':Kd β} {e e' g:Nat} {w w1 W:World} {base b:Nat} {ok ok' okv oku:Nat->Prop} {u v:Value} {xs:List α} {ys:List β}
theorem vW (h:S d e w base ok v xs)(hp:0<xs.length):∃ g cap,v=.slice (some ⟨g,0,none⟩) xs.length cap/\base<=g/\g<w.heap.size/\∃ cells,w.heap[g]? = some (.cells cells e (0,0)):=mr (mA h) hp
theorem vX (h:S d e w base ok v xs):∃ A c,v=.slice A xs.length c:=jP (mA h)
theorem jo {A:Option Addr}{n c:Nat}(h:S d e w base ok (.slice A n c) xs):n=xs.length/\n<=c/\d.C w A xs.length xs:=fi (mA h)
theorem oF {ad:Addr}{n cap:Nat}(h:S d e W base ok (.slice (some ad) n cap) xs)(z:α)(i:Int)(h0:0<=i)(h1:i<n) :
  ∃ c,c.length=d.sz/\d.M W base (fun k=>ok k/\some k≠(Value.slice (some ad) n cap).ownBlock) (xs.getD i.toNat z) c/\∀ j u,c[j]? = some u->W.cell? (ad.add (i.toNat*d.sz+j))=some u:=BQ (mA h) z i h0 h1
end
section
variable {P:Program} {ops:Array Oper} {rest:List Oper} {o:Oper} {a:Act} {Q:Exit->Act->World->Prop} {Kc:Act->World->Prop} {α:Type}
theorem vY (d:Kd α){w0 W:World}(base e:Nat)(hgd:o.guard=none){N:Tmp}(hd:o.dst=some N)(t:TypeId)(x y:Operand)(ho:o.op=.makeSlice t x y)(n:Int)(hx:a.eval x=.int .i64 n)(hy:a.eval y=.int .i64 n)
  (ht:P.underlying t=some (.slice e)) (z:Value) (bytes:Nat) (hinfo:(P.info? e).map (fun i=>(i.zero,i.size,i.bytes))=some (some z,d.sz,bytes)) (hz:z.cells.size=d.sz) (hs0:0<d.sz) (hb0:0<bytes)
  (z0:α) {ok okp:Nat->Prop} (hzero:d.M W base (fun _=>False) z0 z.cells.toList) (_hok:∀ k,okp k->ok k) (hfresh:ok W.heap.size) (h0:0<=n) (hl:n.toNat*bytes<=281474976710656) (HB:Below base w0 W) (hbase:base<=W.heap.size)
  (h:∀ v1 w1,S d e w1 base ok v1 (List.replicate n.toNat z0)->Below base w0 w1->W.grownBy w1 none->(∃ b,v1.ownBlock=some b/\W.heap.size<=b)->wpList P ops Q rest (a.put o.dst v1) w1):wpList P ops Q (o :: rest) a W :=
 pO (vR d) base e hgd hd t x y ho n hx hy ht z bytes hinfo hz hs0 hb0 z0 (ok:=ok) (okp:=ok) hzero (fun _ hk=>hk) hfresh h0 hl HB hbase (fun v1 w1 hr=>h v1 w1 (BU hr))
end
def p7 {α:Type}(f:Nat->Nat)(d:Kd α)(i:Nat)(c:List Value):Kd (α×Nat) where
 sz:=d.sz
 E:=d.E
 K:=fun w x cs=>(x.2=i->cs=c/\cs.length=d.sz/\∀ u∈cs,u.oneCell'=true)/\(x.2≠i->d.K w x.1 cs)
 M:=fun w base ok x cs=>(x.2=i->cs=c/\cs.length=d.sz/\∀ u∈cs,u.oneCell'=true)/\(x.2≠i->d.M w base (fun k=>ok k/\f k=x.2) x.1 cs)
 K_len:=fun {w x cs} h=>by
  by_cases hx:x.2=i
  ·exact (h.1 hx).2.1
  ·exact d.K_len (h.2 hx)
 K_one:=fun {w x cs} h=>by
  by_cases hx:x.2=i
  ·exact (h.1 hx).2.2
  ·exact d.K_one (h.2 hx)
 K_below:=fun hb h=>⟨h.1,fun hx=>d.K_below hb (h.2 hx)⟩
 K_of_M:=fun h=>⟨h.1,fun hx=>d.K_of_M (h.2 hx)⟩
 M_mono:=fun hok h=>⟨h.1,fun hx=>d.M_mono (fun k hk=>⟨hok k hk.1,hk.2⟩) (h.2 hx)⟩
 M_bound:=fun h=>⟨h.1,fun hx=>d.M_mono (fun _ hk=>⟨⟨hk.1.1,hk.2⟩,hk.1.2⟩) (d.M_bound (h.2 hx))⟩
 M_move:=fun hm h=>⟨h.1,fun hx=>d.M_move (fun k hk=>hm k hk.1) (h.2 hx)⟩
 M_lower:=fun hb h=>⟨h.1,fun hx=>d.M_lower hb (h.2 hx)⟩
def H {α:Type}(d:Kd α)(e:Nat)(w:World)(base:Nat)(ok:Nat->Prop)(v:Value)(xs:List α)(i:Int)(oki:Nat->Prop)(c:List Value):Prop :=
 (∀ k,oki k->ok k)/\∃ f,(p7 f d i.toNat c).R e w base (fun k=>ok k/\¬ oki k) v xs.zipIdx
section
variable {α β:Type} {d:Kd α} {e e' g n cap:Nat} {w w1 W:World} {base:Nat} {ok ok' oki okp:Nat->Prop} {u v:Value} {xs:List α} {i:Int} {c:List Value}
theorem vZ (h:S d e W base ok (.slice (some ⟨g,0,none⟩) n cap) xs)(z:α)(i:Int)(h0:0<=i)(h1:i<n) :
  ∃ (oki:Nat->Prop) (c:List Value),c.length=d.sz/\d.M W base oki (xs.getD i.toNat z) c/\(∀ j u,c[j]? = some u->W.cell? ⟨g,i.toNat*d.sz+j,none⟩=some u)/\(∀ k,oki k->ok k/\k≠g)/\H d e W base ok (.slice (some ⟨g,0,none⟩) n cap) xs i oki c:=by
 obtain⟨f,hR⟩:=h;have hn:=(fi hR).1;rw [Mw] at hn;have hgo:some g=(Value.slice (some ⟨g,0,none⟩) n cap).ownBlock:=by simp [Value.ownBlock]
 obtain⟨hok0,inner,ho,hr⟩:=hR;have hil:i.toNat<xs.length:=by omega
 have hlen:inner.length=xs.length*d.sz:=by have:=hr.1;rw [Mw] at this;exact this
 have hseg:i.toNat*d.sz+d.sz<=inner.length:=by rw [hlen,<- Nat.succ_mul];exact Nat.mul_le_mul_right _ hil
 have hM:=hr.2 i.toNat _ (lD (Mz hil));have hkg:∀ k,some k≠(Value.slice (some ⟨g,0,none⟩) n cap).ownBlock->k≠g:=fun k hk he=>hk (by rw [he];exact hgo)
 refine⟨fun k=>(ok k/\k≠g)/\f k=i.toNat,(inner.drop (i.toNat*d.sz)).take d.sz,by rw [List.length_take,List.length_drop];omega,?_,fun j u hu=>?_,fun k hk=>hk.1,fun k hk=>hk.1.1,f,fun k hk=>⟨hok0 k hk,fun h2=>h2.1.2 ?_⟩,inner,ho,hr.1,fun m p hm=>?_⟩
 ·rw [List.getD_eq_getElem?_getD,Mz hil];exact d.M_mono (fun k hk=>⟨⟨hk.1.1,hkg k hk.1.2⟩,hk.2⟩) hM
 ·rw [List.getElem?_take] at hu
  split at hu
  rotate_left
  ·cases hu
  rw [List.getElem?_drop] at hu;have:=ho.cells (g:=g) hgo.symm _ u hu
  rwa [iu] at this
 ·rw [<- hgo] at hk;injection hk with hk;exact hk.symm
 have hold:=hr.2 m p hm;have hp2:p.2=m:=by
  rw [MD,My] at hm;obtain⟨q,_,rfl⟩:=Option.map_eq_some_iff.1 hm;rfl
 refine⟨fun hx=>?_,fun hx=>d.M_mono (fun k hk=>⟨⟨⟨hk.1.1,fun h2=>hx ?_⟩,hk.1.2⟩,hk.2⟩) hold⟩;rotate_left
 ·rw [<- hk.2];exact h2.2
 have hmi:m=i.toNat:=by omega
 subst hmi;exact⟨rfl,d.K_len (d.K_of_M hM),d.K_one (d.K_of_M hM)⟩
open Classical in
theorem we (h:H d e w base ok v xs i oki c){x':α}(hM:d.M w base okp x' c)(hok:∀ k,okp k->oki k):S d e w base ok v (xs.set i.toNat x'):=by
 obtain⟨ho,f,h0,inner,hown,hr⟩:=h;refine⟨fun k=>if oki k then i.toNat else f k,fun k hk=>(h0 k hk).1,inner,by rw [Mw,ME];rw [Mw] at hown;exact hown,by have:=hr.1;rw [Mw] at this;rw [Mw,ME];exact this,fun m p hm=>?_⟩
 rw [MD,My] at hm;obtain⟨q,hq,rfl⟩:=Option.map_eq_some_iff.1 hm;have hml:m<xs.length:=by
  have:=(List.getElem?_eq_some_iff.1 hq).1
  rwa [ME] at this
 by_cases hmi:m=i.toNat;rotate_left
 ·rw [List.getElem?_set_ne (Ne.symm hmi)] at hq;exact d.M_mono (fun k hk=>⟨⟨hk.1.1.1,hk.1.2⟩,(if_neg hk.1.1.2).trans hk.2⟩) ((hr.2 m (q,m) (lD hq)).2 hmi)
 subst hmi;rw [List.getElem?_set_self hml] at hq;injection hq with hq;subst hq;have hc:=((hr.2 i.toNat _ (lD (Mz hml))).1 rfl).1;show d.M w base _ x' ((inner.drop (i.toNat*d.sz)).take d.sz);rw [show (inner.drop (i.toNat*d.sz)).take d.sz=c from hc];exact d.M_mono (fun k hk=>⟨⟨ho k (hok k hk),fun he=>(h0 k he.symm).2 (hok k hk)⟩,if_pos (hok k hk)⟩) hM
theorem BV (h:H d e w base ok v xs i oki c)(hm:∀ k,ok k->¬ oki k->k<w.heap.size->w1.heap[k]? = w.heap[k]?):H d e w1 base ok v xs i oki c:=by
 obtain⟨ho,f,h⟩:=h;exact⟨ho,f,mj h (fun k hk hlt=>hm k hk.1 hk.2 hlt)⟩
theorem BW (h:H d e w base ok v xs i oki c){row:Option Nat}(hg:w.grownBy w1 row)(hrow:∀ k,row=some k->oki k):H d e w1 base ok v xs i oki c :=
 BV h (fun k _ hn hlt=>hg.block k hlt (fun he=>hn (hrow k he.symm)))
theorem BX {okg:Nat->Prop}(h:H d e w base (fun k=>ok k/\¬ okg k) v xs i oki c)(hg:∀ k,okg k->ok k):H d e w base ok v xs i (fun k=>oki k\/okg k) c:=by
 obtain⟨ho,f,h⟩:=h;exact⟨fun k hk=>hk.elim (fun h2=>(ho k h2).1) (hg k),f,eK h (fun k hk=>⟨hk.1.1,fun h2=>h2.elim hk.2 hk.1.2⟩)⟩
theorem sO {ad:Addr}(h:S d e W base ok (.slice (some ad) n cap) xs)(z:α)(i:Int)(h0:0<=i)(h1:i<n) :
  ∃ (oki:Nat->Prop) (c:List Value),c.length=d.sz/\d.M W base oki (xs.getD i.toNat z) c/\(∀ j u,c[j]? = some u->W.cell? (ad.add (i.toNat*d.sz+j))=some u)/\(∀ k,oki k->ok k/\some k≠(Value.slice (some ad) n cap).ownBlock)/\
   ∀ {w1:World} {row:Option Nat} {x':α},W.grownBy w1 row->(∀ k,row=some k->oki k)->d.M w1 base oki x' c->S d e w1 base ok (.slice (some ad) n cap) (xs.set i.toNat x'):=by
 obtain⟨g,rfl⟩:=vS (mA h);obtain⟨oki,c,hcl,hM,hcc,hoki,hH⟩:=vZ h z i h0 h1;refine⟨oki,c,hcl,hM,fun j u hu=>?_,fun k hk=>⟨(hoki k hk).1,fun he=>(hoki k hk).2 ?_⟩,fun hg hrow hM1=>we (BW hH hg hrow) hM1 (fun _ hk=>hk)⟩;rotate_left
 ·simpa [Value.ownBlock] using he
 rw [vz,My];exact hcc j u hu
theorem p9 (h:S d e W base ok (.slice (some ⟨g,0,none⟩) n cap) xs)(z:α)(i:Int)(h0:0<=i)(h1:i<n) :
  ∃ (oki:Nat->Prop) (c:List Value),c.length=d.sz/\d.M W base oki (xs.getD i.toNat z) c/\(∀ j u,c[j]? = some u->W.cell? ⟨g,i.toNat*d.sz+j,none⟩=some u)/\(∀ j,W.frozen? ⟨g,i.toNat*d.sz+j,none⟩=false)/\(∀ k,oki k->ok k/\k≠g)/\H d e W base ok (.slice (some ⟨g,0,none⟩) n cap) xs i oki c:=by
 obtain⟨_,_,_,_,hfr⟩:=pQ (mA h) z i h0 h1;obtain⟨oki,c,hcl,hM,hcc,hoki,hH⟩:=vZ h z i h0 h1;exact⟨oki,c,hcl,hM,hcc,hfr,hoki,hH⟩
theorem BZ (h:H d e W base ok (.slice (some ⟨g,0,none⟩) n cap) xs i oki c)(h0:0<=i)(h1:i<n) :
  ∃ rows:List (List Value),rows.length=xs.length/\(raw d.sz).R e W base (fun _=>True) (.slice (some ⟨g,0,none⟩) n cap) rows/\c.length=d.sz/\(∀ u∈c,u.oneCell'=true)/\(∀ j u,c[j]? = some u->W.cell? ⟨g,i.toNat*d.sz+j,none⟩=some u)/\
   ∀ w1 c',W.grownBy w1 (some g)->(raw d.sz).R e w1 base (fun _=>True) (.slice (some ⟨g,0,none⟩) n cap) (rows.set i.toNat c')->H d e w1 base ok (.slice (some ⟨g,0,none⟩) n cap) xs i oki c':=by
 obtain⟨hoo,f,hR⟩:=h;have hn:=(fi hR).1;rw [Mw] at hn;have hgo:some g=(Value.slice (some ⟨g,0,none⟩) n cap).ownBlock:=by simp [Value.ownBlock]
 obtain⟨hok0,inner,ho,hr⟩:=hR;have hil:i.toNat<xs.length:=by omega
 have hlen:inner.length=xs.length*d.sz:=by have:=hr.1;rw [Mw] at this;exact this
 have hkg:∀ k,some k≠(Value.slice (some ⟨g,0,none⟩) n cap).ownBlock->k≠g:=fun k hk he=>hk (by rw [he];exact hgo)
 have hci:=(hr.2 i.toNat _ (lD (Mz hil))).1 rfl;rw [hci.1] at hci;have hc:=((hr.2 i.toNat _ (lD (Mz hil))).1 rfl).1;refine⟨(List.range xs.length).map fun j=>(inner.drop (j*d.sz)).take d.sz,by rw [MA,Mx],⟨fun _ _=>trivial,inner,?_,?_,fun j p hj=>?_⟩,hci.2.1,hci.2.2,fun j u hu=>?_,fun w1 c' hg hraw=>?_⟩
 ·rw [MA,Mx];rw [Mw] at ho;exact ho
 ·rw [MA,Mx];exact hlen
 ·rw [List.getElem?_map] at hj;obtain⟨j',hj',rfl⟩:=Option.map_eq_some_iff.1 hj;obtain⟨hl,he⟩:=List.getElem?_eq_some_iff.1 hj';rw [List.getElem_range] at he;subst he;rw [Mx] at hl;have hm:=(p7 f d i.toNat c).K_of_M (hr.2 j _ (lD (Mz hl)));exact⟨rfl,(p7 f d i.toNat c).K_len hm,(p7 f d i.toNat c).K_one hm⟩
 ·rw [<- hc,List.getElem?_take] at hu
  split at hu
  rotate_left
  ·cases hu
  rw [List.getElem?_drop] at hu;have:=ho.cells (g:=g) hgo.symm _ u hu
  rwa [iu] at this
 obtain⟨_,inner',ho',hr'⟩:=hraw;have hl':inner'.length=xs.length*d.sz:=by have:=hr'.1;rw [ME,MA,Mx] at this;exact this
 rw [ME,MA,Mx] at ho';refine⟨hoo,f,hok0,inner',by rw [Mw];exact ho',by rw [Mw];exact hl',fun m p hm=>?_⟩
 rw [MD,My] at hm;obtain⟨q,hq,rfl⟩:=Option.map_eq_some_iff.1 hm;have hml:m<xs.length:=(List.getElem?_eq_some_iff.1 hq).1;have hold:=hr.2 m (q,m) (lD hq);refine⟨fun hx=>?_,fun hx=>?_⟩
 ·have hx':m=i.toNat:=hx;subst hx';exact hr'.2 i.toNat c' (List.getElem?_set_self (by rw [MA,Mx];exact hml))
 have hx':m≠i.toNat:=hx;have hcm:=(hr'.2 m ((inner.drop (m*d.sz)).take d.sz) (by
  rw [List.getElem?_set_ne (Ne.symm hx'),List.getElem?_map,Mz (by rw [Mx];exact hml),List.getElem_range]
  rfl)).1
 show d.M w1 base _ q ((inner'.drop (m*d.sz)).take d.sz);rw [show (inner'.drop (m*d.sz)).take d.sz=_ from hcm];exact d.M_mono (fun k hk=>hk.1) (d.M_move (w1:=w1) (fun k hk=>hg.block k hk.2.2.1 (fun he=>hkg k hk.1.1.2 (by injection he))) (d.M_bound (hold.2 hx)))
theorem B1 (h:H d e W base ok (.slice (some ⟨g,0,none⟩) n cap) xs i oki c)(h0:0<=i)(h1:i<n){seg:List Value}{j:Nat}(hj:j+seg.length<=d.sz)(hone:∀ q∈seg,q.oneCell'=true) :
  H d e (W.setCells g (i.toNat*d.sz+j) seg) base ok (.slice (some ⟨g,0,none⟩) n cap) xs i oki (c.take j++seg++c.drop (j+seg.length))/\W.grownBy (W.setCells g (i.toNat*d.sz+j) seg) (some g):=by
 obtain⟨rows,_,hraw,hcl,hco,hcc,hback⟩:=BZ h h0 h1;obtain⟨h2,h3⟩:=BB hraw i h0 h1 (c:=c) (seg:=seg) (j:=j) (x':=c.take j++seg++c.drop (j+seg.length)) (okp:=fun _=>False) hcl hcc hj
  ⟨rfl,by
   show (c.take j++seg++c.drop (j+seg.length)).length=d.sz;simp only [List.length_append,List.length_take,List.length_drop];omega,fun u hu=>by
   rcases List.mem_append.1 hu with hu | hu
   ·rcases List.mem_append.1 hu with hu | hu
    ·exact hco u (List.mem_of_mem_take hu)
    exact hone u hu
   exact hco u (List.mem_of_mem_drop hu)⟩ (fun _ hk=>hk.elim)
 exact⟨hback _ _ h3 h2,h3⟩
theorem wg {okg:Nat->Prop}(hH:H d e W base (fun k=>ok k/\¬ okg k) (.slice (some ⟨g,0,none⟩) n cap) xs i oki c)(h0:0<=i)(h1:i<n){seg:List Value}{j:Nat}(hj:j+seg.length<=d.sz)
  {x':α} (hM:d.M W base okp x' (c.take j++seg++c.drop (j+seg.length))) (hokp:∀ k,okp k->oki k\/okg k) (hg:∀ k,okg k->ok k/\k≠g) :
  S d e (W.setCells g (i.toNat*d.sz+j) seg) base ok (.slice (some ⟨g,0,none⟩) n cap) (xs.set i.toNat x')/\W.grownBy (W.setCells g (i.toNat*d.sz+j) seg) (some g):=by
 have hne:∀ k,oki k\/okg k->k≠g:=by
  intro k hk he;subst he;rcases hk with hk | hk
  rotate_left
  ·exact (hg k hk).2 rfl
  obtain⟨_,f,hR⟩:=hH;exact (hR.1 k (by simp [Value.ownBlock])).2 hk
 obtain⟨h2,h3⟩:=B1 (BX hH (fun k hk=>(hg k hk).1)) h0 h1 hj (fun q hq=>d.K_one (d.K_of_M hM) q (List.mem_append_left _ (List.mem_append_right _ hq)));exact⟨we h2 (u7 hM (fun k hk hlt=>h3.block k hlt (fun he=>hne k (hokp k hk) (by injection he)))) hokp,h3⟩
end
end Kd
end Go.Proofs.YtgccjgpdjkhpdaaGreatW.PrintWords
namespace Go.Proofs.YtgccjgpdjkhpdaaGreatW.PrintWords
open Go.RowKit
namespace Kd
structure wh {α:Type}(d:Kd α):Prop where
 K:∀ {w w1:World} {x:α} {cs:List Value},(∀ k,k<w.heap.size->w1.heap[k]? = w.heap[k]?)->d.K w x cs->d.K w1 x cs
theorem B2 {w w1:World}(hb:∀ k,k<w.heap.size->w1.heap[k]? = w.heap[k]?){a:Addr}{v:Value}(h:w.cell? a=some v):w1.cell? a=some v:=by
 have:=hb a.block (World.block_lt_of_cell? w a h);simpa [World.cell?,this] using h
theorem wh.C {α:Type}{d:Kd α}(hd:wh d){w w1:World}{A:Option Addr}{n:Nat}{xs:List α}(hb:∀ k,k<w.heap.size->w1.heap[k]? = w.heap[k]?)(h:d.C w A n xs):d.C w1 A n xs :=
 ⟨h.1,h.2.1,fun hn=>by
  obtain⟨ad,e,hc⟩:=h.2.2 hn;refine⟨ad,e,fun j p hj=>?_⟩;obtain⟨c,hs,hr,hcell⟩:=hc j p hj;exact⟨c,hs,hd.K hb hr,fun i u hu=>B2 hb (hcell i u hu)⟩⟩
end Kd
end Go.Proofs.YtgccjgpdjkhpdaaGreatW.PrintWords
namespace Go.Proofs.YtgccjgpdjkhpdaaGreatW.PrintWords
open Go.RowKit
def cj (w W:World)(S:Nat->Prop):Prop:=w.heap.size<=W.heap.size/\∀ i,i<w.heap.size->¬ S i->W.heap[i]? = w.heap[i]?
section
variable {w W W2:World} {S S2 S':Nat->Prop}
theorem cj.refl (w:World)(S:Nat->Prop):cj w w S:=⟨Nat.le_refl _,fun _ _ _=>rfl⟩
theorem cj.of_below (h:Below w.heap.size w W)(S:Nat->Prop):cj w W S:=⟨h.size,fun i hi _=>h.block i hi⟩
theorem cj.mono (h:cj w W S)(hs:∀ k,S k->S' k):cj w W S':=⟨h.1,fun i hi hn=>h.2 i hi (fun hk=>hn (hs i hk))⟩
theorem cj.then_ (h:cj w W S)(k:cj W W2 S2)(hs:∀ k,S2 k->S k\/w.heap.size<=k):cj w W2 S :=
 ⟨Nat.le_trans h.1 k.1,fun i hi hn=>(k.2 i (Nat.lt_of_lt_of_le hi h.1) (fun h2=>(hs i h2).elim hn (fun h3=>by omega))).trans (h.2 i hi hn)⟩
theorem cj.below (h:cj w W S)(hb:Below W.heap.size W W2):cj w W2 S:=h.then_ (cj.of_below hb (fun _=>False)) (fun _ hk=>hk.elim)
theorem cj.alloc (h:cj w W S)(o:Obj):cj w (W.alloc o) S:=h.below (ai (Below.refl _ _) o)
theorem cj.drew (h:cj w W S):cj w W.drew S:=h
theorem cj.drewN (h:cj w W S)(m:Nat):cj w (W.drewN m) S:=h
theorem cj.setCell (h:cj w W S){p:Addr}(hp:S p.block\/w.heap.size<=p.block)(u:Value):cj w (W.setCell p u) S :=
 h.then_ (S2:=fun k=>k=p.block) ⟨by simp [World.setCell],fun i _ hn=>Below.heap_setCell W p u i hn⟩ (fun k hk=>by rw [hk];exact hp)
theorem cj.keep {g:Nat}(h:gj w W g none)(k:cj W W2 S2)(hs:∀ k,S2 k->w.heap.size<=k):gj w W2 g none :=
 ⟨Nat.le_trans h.1 k.1,fun i hi hg hr=>(k.2 i (Nat.lt_of_lt_of_le hi h.1) (fun h2=>by have:=hs i h2;omega)).trans (h.2 i hi hg hr)⟩
theorem wj {g:Nat}{o:Obj}(hb:W.heap[g]? = some o)(hk:cj W W2 S)(hne:¬ S g):W2.heap[g]? = some o:=(hk.2 g (ky hb) hne).trans hb
end
end Go.Proofs.YtgccjgpdjkhpdaaGreatW.PrintWords
namespace Go.Proofs.YtgccjgpdjkhpdaaGreatW.PrintWords
open Go.RowKit
def Foot (P:World->Prop)(W:World)(ok:Nat->Prop):Prop:=∀ W':World,(∀ k,ok k->k<W.heap.size->W'.heap[k]? = W.heap[k]?)->P W'
theorem B3 {W W1:World}{k:Nat}(h:W1.heap[k]? = W.heap[k]?)(hlt:k<W.heap.size):k<W1.heap.size:=by
 rw [Array.getElem?_eq_getElem hlt] at h;exact (Array.getElem?_eq_some_iff.1 h).1
namespace Foot
variable {P Q:World->Prop} {W W1:World} {ok ok':Nat->Prop}
theorem mono (h:Foot P W ok)(hok:∀ k,ok k->ok' k):Foot P W ok':=fun W' hW=>h W' (fun k hk hlt=>hW k (hok k hk) hlt)
theorem bound (h:Foot P W ok):Foot P W (fun k=>ok k/\k<W.heap.size):=fun W' hW=>h W' (fun k hk hlt=>hW k ⟨hk,hlt⟩ hlt)
theorem step (h:Foot P W ok)(hm:∀ k,ok k->k<W.heap.size->W1.heap[k]? = W.heap[k]?):Foot P W1 ok:=fun W' hW=>h W' (fun k hk hlt=>(hW k hk (B3 (hm k hk hlt) hlt)).trans (hm k hk hlt))
theorem old (h:Foot P W ok)(hb:Below W.heap.size W W1):Foot P W1 (fun k=>ok k/\k<W.heap.size):=(h.bound).step (fun k _ hlt=>hb.block k hlt)
end Foot
namespace Kd
def F {α:Type}(d:Kd α)(W:World)(ok:Nat->Prop)(A:Option Addr)(n:Nat)(xs:List α):Prop:=Foot (fun W=>d.C W A n xs) W ok
def FK {α:Type}(d:Kd α)(W:World)(ok:Nat->Prop)(x:α)(c:List Value):Prop:=Foot (fun W=>d.K W x c) W ok
end Kd
end Go.Proofs.YtgccjgpdjkhpdaaGreatW.PrintWords
namespace Go.Proofs.YtgccjgpdjkhpdaaGreatW.PrintWords
open Go.RowKit
namespace Kd
section
variable {α:Type} {d:Kd α} {e base n cc g:Nat} {ok ok' okp S:Nat->Prop} {w w1 W W1:World} {A:Option Addr} {u v v1:Value} {xs:List α} {x:α} {c:List Value}
def N {α:Type}(d:Kd α)(e:Nat)(w:World)(base:Nat)(ok:Nat->Prop)(v:Value)(xs:List α):Prop :=
 (∀ k,v.ownBlock=some k->ok k)/\∃ rows:List (List Value),rows.length=xs.length/\(raw d.sz).R e w base (fun k=>some k=v.ownBlock) v rows/\∀ (j:Nat) (x:α) (c:List Value),xs[j]? = some x->rows[j]? = some c->FK d w (fun k=>ok k/\some k≠v.ownBlock) x c
end
end Kd
end Go.Proofs.YtgccjgpdjkhpdaaGreatW.PrintWords
namespace Go.Proofs.YtgccjgpdjkhpdaaGreatW.PrintWords
open Go.RowKit
theorem oG {v1 v2:Value}{n:Nat}(hlt:∀ k,v1.ownBlock=some k->k<n)(hge:∀ k,v2.ownBlock=some k->n<=k):v1.ownBlock=none\/v1.ownBlock≠v2.ownBlock:=by
 cases h:v1.ownBlock with
 | none=>exact .inl rfl
 | some k=>exact .inr (fun e=>by have:=hlt k h;have:=hge k e.symm;omega)
end Go.Proofs.YtgccjgpdjkhpdaaGreatW.PrintWords
namespace Go.Proofs.YtgccjgpdjkhpdaaGreatW.PrintMore
open Go.RowKit Go.Proofs.YtgccjgpdjkhpdaaGreatW.PrintWords
theorem fB (k k':IntKind)(x y:Int):Builtin.max2 (.int k x) (.int k' y)=pure (.int k (if x<y then y else x)):=by simp only [Builtin.max2,gt_iff_lt]
theorem fC (k k':IntKind)(x y:Int):Builtin.min2 (.int k x) (.int k' y)=pure (.int k (if y<x then y else x)):=by simp only [Builtin.min2]
theorem fD (ats:Array TypeId)(ty:TypeId)(a b:Value):Builtin.max_ ats ty #[a,b]=(Builtin.max2 a b >>= fun s=>pure s):=by simp only [Builtin.max_,MB,MC]
theorem fE (ats:Array TypeId)(ty:TypeId)(a b:Value):Builtin.min_ ats ty #[a,b]=(Builtin.min2 a b >>= fun s=>pure s):=by simp only [Builtin.min_,MB,MC]
theorem fF (ats:Array TypeId)(ty:TypeId)(a b c:Value):Builtin.max_ ats ty #[a,b,c]=(Builtin.max2 a b >>= fun s=>Builtin.max2 s c >>= fun s=>pure s):=by simp only [Builtin.max_,MB,MC]
theorem fG (ats:Array TypeId)(ty:TypeId)(a b c:Value):Builtin.min_ ats ty #[a,b,c]=(Builtin.min2 a b >>= fun s=>Builtin.min2 s c >>= fun s=>pure s):=by simp only [Builtin.min_,MB,MC]
theorem fH (ats:Array TypeId)(ty:TypeId)(a b c d:Value):Builtin.max_ ats ty #[a,b,c,d]=(Builtin.max2 a b >>= fun s=>Builtin.max2 s c >>= fun s=>Builtin.max2 s d >>= fun s=>pure s):=by simp only [Builtin.max_,MB,MC]
theorem fI (ats:Array TypeId)(ty:TypeId)(a b c d:Value):Builtin.min_ ats ty #[a,b,c,d]=(Builtin.min2 a b >>= fun s=>Builtin.min2 s c >>= fun s=>Builtin.min2 s d >>= fun s=>pure s):=by simp only [Builtin.min_,MB,MC]
end Go.Proofs.YtgccjgpdjkhpdaaGreatW.PrintMore
namespace Go.Proofs.YtgccjgpdjkhpdaaGreatW.PrintWords
open Go.RowKit
section
variable {P:Program} {ops:Array Oper} {rest:List Oper} {o:Oper} {a:Act} {Q:Exit->Act->World->Prop} {W:World}
theorem bg {f:FuncId}{as:Array Operand}{ts:Array TypeId}(_ho:o.op=.call { callee:=.value (.func f),args:=as,argTypes:=ts })(h:wpList P ops Q (o :: rest) a W):wpList P ops Q (o :: rest) a W:=h
theorem bD {b:Builtin}{xs:Array Operand}{ts:Array TypeId}(_ho:o.op=.call { callee:=.builtin b,args:=xs,argTypes:=ts })(h:wpList P ops Q (o :: rest) a W):wpList P ops Q (o :: rest) a W:=h
end
def mx (a b:Int):Int:=if a<b then b else a
def mn (a b:Int):Int:=if b<a then b else a
def m9 (k:IntKind)(x y:Int):Int:=k.wrap (x*2 ^ min y.toNat k.bits)
def eZ (k:IntKind)(x y:Int):Int:=x/2 ^ min y.toNat k.bits
theorem B4 {k:IntKind}{x y j:Int}(h:m9 k x y=j)(hy:y<=k.bits):k.wrap (x*2 ^ y.toNat)=j:=by rw [<- h];unfold m9;rw [Nat.min_eq_left (by omega)]
theorem qd {k:IntKind}{x y j:Int}(h:eZ k x y=j)(hy:y<=k.bits):x/2 ^ y.toNat=j:=by rw [<- h];unfold eZ;rw [Nat.min_eq_left (by omega)]
theorem B5 (w:World)(n:Nat):w.drewN n=w.drewN n:=rfl
end Go.Proofs.YtgccjgpdjkhpdaaGreatW.PrintWords
namespace Go.Proofs.YtgccjgpdjkhpdaaGreatW.PrintWords
open Go.RowKit
namespace Kd
def V {α:Type}(d:Kd α)(_e:Nat)(W:World)(_base:Nat)(ok:Nat->Prop)(v:Value)(xs:List α):Prop:=∃ A c,v=.slice A xs.length c/\xs.length<=c/\F d W ok A xs.length xs
end Kd
end Go.Proofs.YtgccjgpdjkhpdaaGreatW.PrintWords
