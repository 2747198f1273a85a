import Derived.Below
import Derived.Deep.Draws
import Derived.Deep.AppendLies
import Derived.Maps.AppendAt
import Derived.OwnWalk
import Derived.Laws.BytesArg
import Derived.Laws.MakeOwn
import Derived.Laws.OwnMore
import Derived.Deep.OwnRows
import Derived.Tactics
import Derived.Lib.ConvBytes
import Derived.Laws.Slices
import Derived.WalkKit
import Derived.KernelRfl
import Derived.RowKit3
import Derived.Deep.LoopGhost
import Derived.Deep.QuietTactic
import Derived.BigQuiet
import Derived.WideLaws
import Derived.Deep.DeepCutAuto
import Derived.Deep.CutBlock
import Derived.Deep.RegionHeld3
import Derived.Laws.Rows
import Derived.Lib.AppendStr
import Derived.ArgAppend
import Derived.Laws.IdiomCopy
import Derived.RowKit
import Derived.OrdersHeld
import Derived.Laws.BitsLemmas
open List renaming getElem?_eq_getElem→Mw,getD_eq_getElem?_getD→My,length_append→MA,getElem?_take→MC,length_take→MD,length_drop→ME,getElem?_drop→MF,length_set→MG,getElem?_eq_none→MJ,range→MK,length_singleton→MN,ext_getElem?→MO,getElem?_append_left→MP
open Bool renaming and_eq_true→Mx,or_eq_true→ML
open Nat renaming succ_mul→Mz,mul_le_mul_right→MB,le_trans→MH,lt_or_ge→MI,le_mul_of_pos_right→MM
open Array renaming length_toList→MQ,getElem?_eq_none→MR
/-! Own texts of this claim, part 0. -/
set_option linter.unusedVariables false
set_option linter.unusedSimpArgs false
namespace Go.Proofs.YtgccjgpdjkhpdaaGreatW.PrintWords
open Go.RowKit
structure Aside0 (p:Prop):Prop where mk :: (out:p)
theorem Zz{p:Prop}(h:p):Aside0 p:=⟨h⟩
structure aj (w w':World):Prop where mk :: (out:∃ n,w'=w.drewN n)
theorem aj.refl (w:World):aj w w:=⟨⟨0,rfl⟩⟩
theorem aj.step {w w':World}(h:aj w w')(n:Nat):aj w (w'.drewN n):=by
 obtain⟨m,rfl⟩:=h;exact⟨⟨m+n,World.drewN_drewN ..⟩⟩
theorem aj.grown {w w':World}(h:aj w w'):Grown w w':=by
 obtain⟨n,rfl⟩:=h
 induction n with
 | zero=>exact Grown.refl _
 | succ n ih=>rw [<- World.drew_drewN];exact Grown.drew ih
theorem aj.below {w w':World}(h:aj w w'):Below w.heap.size w w':=by
 obtain⟨n,rfl⟩:=h
 induction n with
 | zero=>exact Below.refl _ _
 | succ n ih=>rw [<- World.drew_drewN];exact ih.drew
def rd (xs:List Int)(i:Int):Int:=xs.getD i.toNat 0
def bt (s:ByteArray)(i:Int):Int:=if h:i.toNat<s.size then ((s[i.toNat]'h).toNat:Int) else 0
def ac (k:IntKind)(xs:List Int):List Value:=xs.map fun x=>.int k x
def jh (xs:List Bool):List Value:=xs.map fun x=>.bool x
theorem su (k:IntKind)(xs:List Int):(ac k xs).length=xs.length:=by simp [ac]
theorem ai {w W:World}(h:Below w.heap.size w W)(o:Obj):Below w.heap.size w (W.alloc o):=h.alloc h.size o
theorem jM {B:Nat}{w W:World}(h:Below B w W):Below B w W.drew:=⟨h.os,h.tape,h.output,h.size,h.block⟩
theorem au {B:Nat}{w W:World}(h:Below B w W)(n:Nat):Below B w (W.drewN n):=⟨h.os,h.tape,h.output,h.size,h.block⟩
theorem sv {B:Nat}{w w1 w2:World}(h:Below B w w1)(hB:B<=w1.heap.size)(k:Below w1.heap.size w1 w2):Below B w w2 :=
 h.trans ⟨k.os,k.tape,k.output,k.size,fun i hi=>k.block i (Nat.lt_of_lt_of_le hi hB)⟩
theorem sw {w w1:World}(h:Below w.heap.size w w1)(row:Option Nat):w.grownBy w1 row:=⟨h.os,h.tape,h.output,h.size,fun i hi _=>h.block i hi⟩
theorem g8 {w w1:World}(h:Below w.heap.size w w1){a:Addr}{v:Value}(hc:w.cell? a=some v):w1.cell? a=some v:=(h.cell (World.block_lt_of_cell? w a hc)).trans hc
theorem iu (g j:Nat):(⟨g,0,none⟩:Addr).add j=⟨g,j,none⟩:=by unfold Addr.add;split<;>simp_all
def cA (w:World)(k:IntKind)(A:Option Addr)(n:Nat)(xs:List Int):Prop :=
 xs.length=n/\n<=9223372036854775807/\(0<n->∃ ad,A=some ad/\∀ j,j<n->w.cell? (ad.add j)=some (.int k (xs.getD j 0)))
theorem cA.at_ {w:World}{k:IntKind}{A:Option Addr}{n:Nat}{xs:List Int}(h:cA w k A n xs)(i:Int)(h0:0<=i)(h1:i<n):∃ ad,A=some ad/\w.cell? (ad.add i.toNat)=some (.int k (rd xs i)):=by
 obtain⟨ad,e,hc⟩:=h.2.2 (by omega);exact⟨ad,e,hc _ (by omega)⟩
theorem cA.below {w w1:World}{k:IntKind}{A:Option Addr}{n:Nat}{xs:List Int}(h:cA w k A n xs)(hb:Below w.heap.size w w1):cA w1 k A n xs :=
 ⟨h.1,h.2.1,fun hn=>by
  obtain⟨ad,e,hc⟩:=h.2.2 hn;exact⟨ad,e,fun j hj=>g8 hb (hc j hj)⟩⟩
theorem Bf (W:World)(base:Nat)(e:TypeId)(size:Nat):W.ownsRow base e size (.slice none 0 0) 0 []:=⟨by simp,.inl ⟨rfl,rfl⟩⟩
theorem cF {w:World}{base:Nat}{e:TypeId}{size n:Nat}{v:Value}{xs:List Value}(h:w.ownsRow base e size v n xs)(k:Nat)(hk:v.ownBlock=some k):base<=k:=by
 rcases h.2 with⟨rfl,_⟩ | ⟨g,cap,cur,rfl,hb,_⟩
 ·simp [Value.ownBlock] at hk
 have:g=k:=by simpa [Value.ownBlock] using hk
 omega
theorem uU {w:World}{base:Nat}{e:TypeId}{size n:Nat}{v:Value}{xs:List Value}(h:w.ownsRow base e size v n xs)(k:Nat)(hk:v.ownBlock=some k):k<w.heap.size:=by
 rcases h.2 with⟨rfl,_⟩ | ⟨g,cap,cur,rfl,hb,hh,_⟩
 ·simp [Value.ownBlock] at hk
 have:g=k:=by simpa [Value.ownBlock] using hk
 subst this;exact (Array.getElem?_eq_some_iff.1 hh).1
theorem Bg {w w1:World}{base:Nat}{e:TypeId}{size n:Nat}{v:Value}{xs:List Value}(h:w.ownsRow base e size v n xs)(hb:Below w.heap.size w w1):w1.ownsRow base e size v n xs :=
 h.kept (sw hb none) (by cases v.ownBlock<;>simp)
theorem eh {w:World}{base n:Nat}{e:TypeId}{size:Nat}{v:Value}{xs:List Value}(h:w.ownsRow base e size v n xs):∃ A c,v=.slice A n c:=by
 rcases h.2 with⟨rfl,rfl⟩ | ⟨g,cap,cur,rfl,_⟩
 ·exact⟨none,0,rfl⟩
 exact⟨_,cap,rfl⟩
theorem oh {P:Program}{w:World}{base n:Nat}{e' src dst e:TypeId}{v:Value}{xs:List Int}(hs:P.underlying src=some (.slice e))(he:P.underlying e=some (.int .u8))(hd:P.underlying dst=some .string)
  (h:w.ownsRow base e' 1 v n (ac .u8 xs)):(convert src dst v).run P w=.ok (.string (strOfNums xs)) w:=by
 have hl:xs.length=n:=by have:=h.1;simp [ac] at this;exact this
 rcases h.2 with⟨rfl,rfl⟩ | ⟨g,cap,cur,rfl,_⟩
 ·obtain rfl:xs=[]:=List.eq_nil_of_length_eq_zero hl;exact run_convert_bytes_nil w src e hs he 0 0 dst hd
 refine run_convert_bytes_arg w src e hs he g 0 n cap xs hl (fun i hi=>?_) dst hd;have hc:=h.cells (g:=g) rfl i (.int .u8 (xs.getD i 0)) (by simp [ac,Mw (show i<xs.length by omega),My]);have ha:(⟨g,0,none⟩:Addr).add i=⟨g,0+i,none⟩:=by unfold Addr.add;split<;>simp_all
 rwa [ha] at hc
section
variable {P:Program} {ops:Array Oper} {rest:List Oper} {o:Oper} {a:Act} {Q:Exit->Act->World->Prop}
theorem pL {w0 W:World}(base:Nat)(hgd:o.guard=none)(s x:Operand)(t e:TypeId)(z:Value)(bytes:Nat)
  (ho:o.op=.call { callee:=.builtin .append,args:=#[s,x],argTypes:=#[t,t] })
  (ht:P.underlying t=some (.slice e)) (hinfo:(P.info? e).map (fun i=>(i.zero,i.size,i.bytes))=some (some z,1,bytes)) (hz:z.cells.size=1) (hb0:0<bytes)
  (v:Value) (xs:List Value) (y:Value) (hs:a.eval s=v) (hx:a.eval x=.slice (some ⟨W.heap.size,0,none⟩) 1 1) (h1:y.oneCell'=true)
  (HO:W.ownsRow base e 1 v xs.length xs) (HB:Below base w0 W) (hbase:base<=W.heap.size) (hl:(xs.length+1)*bytes<=140737488355328)
  (h:∀ v1 w1,w1.ownsRow base e 1 v1 (xs++[y]).length (xs++[y])->Below base w0 w1->W.grownBy w1 v.ownBlock->(v1.ownBlock=v.ownBlock\/∃ b,v1.ownBlock=some b/\W.heap.size<=b)->wpList P ops Q rest (a.put o.dst v1) w1) :
  wpList P ops Q (o :: rest) a (W.alloc (.cells #[y] e)):=by
 obtain⟨i0,hi,hzz⟩:=Option.map_eq_some_iff.1 hinfo;simp only [Prod.mk.injEq] at hzz;obtain⟨hz0,hz1,hz2⟩:=hzz;have hlen:xs.length+1<=140737488355328:=MH (MM _ hb0) hl;refine wpList_append_own_at (W.alloc (.cells #[y] e)) hgd s x t ho base e i0 z 1 bytes ht hi hz0 hz1 hz2 hz (by omega) v xs.length xs hs (HO.alloc _) ⟨W.heap.size,0,none⟩ 1 1 [y] hx rfl
  (World.news_of_block (cs:=#[y]) (t:=e) (fr:=(0,0)) (heap_alloc_new W _)) (by simpa using h1) (by simp only [maxLen];omega) hl (by simp;omega) ?_
 intro v1 w1 hown hg _ hat;refine h v1 w1 (by simpa using hown) ((HB.alloc hbase _).grown hg (by simp;omega) (cF HO)) (World.grownBy.trans (World.grownBy_alloc W _ _) hg) ?_
 rcases hat with hat | hat
 ·exact .inl hat
 exact .inr ⟨_,hat,by simp⟩
theorem eI {w0 W:World}(base:Nat)(hgd:o.guard=none)(s x:Operand)(t e:TypeId)(k:IntKind)(bytes:Nat)
  (ho:o.op=.call { callee:=.builtin .append,args:=#[s,x],argTypes:=#[t,t] })
  (ht:P.underlying t=some (.slice e)) (hinfo:(P.info? e).map (fun i=>(i.zero,i.size,i.bytes))=some (some (.int k 0),1,bytes)) (hb0:0<bytes)
  (v:Value) (xs:List Int) (y:Int) (hs:a.eval s=v) (hx:a.eval x=.slice (some ⟨W.heap.size,0,none⟩) 1 1)
  (HO:W.ownsRow base e 1 v xs.length (ac k xs)) (HB:Below base w0 W) (hbase:base<=W.heap.size) (hl:(xs.length+1)*bytes<=140737488355328)
  (h:∀ v1 w1,w1.ownsRow base e 1 v1 (xs++[y]).length (ac k (xs++[y]))->Below base w0 w1->W.grownBy w1 v.ownBlock->(v1.ownBlock=v.ownBlock\/∃ b,v1.ownBlock=some b/\W.heap.size<=b)->wpList P ops Q rest (a.put o.dst v1) w1) :
  wpList P ops Q (o :: rest) a (W.alloc (.cells #[.int k y] e)) :=
 pL base hgd s x t e (.int k 0) bytes ho ht hinfo rfl hb0 v (ac k xs) (.int k y) hs hx rfl (by rw [su];exact HO) HB hbase (by rw [su];exact hl)
  fun v1 w1 hown hB hg hat=>h v1 w1 (by simpa [ac] using hown) hB hg hat
end
theorem mU {W:World}{base g n cap:Nat}{e:TypeId}{k:IntKind}{xs:List Int}(h:W.ownsRow base e 1 (.slice (some ⟨g,0,none⟩) n cap) n (ac k xs))(i:Int)(h0:0<=i)(h1:i<n) :
  W.cell? ⟨g,i.toNat,none⟩=some (.int k (rd xs i))/\W.frozen? ⟨g,i.toNat,none⟩=false:=by
 have hl:xs.length=n:=by have:=h.1;simp [ac] at this;exact this
 constructor
 rotate_left
 ·rcases h.2 with⟨h',_⟩ | ⟨g',cap',cur,h',_,hh,_⟩
  ·cases h'
  have:g=g':=by injection h' with h';injection h' with h';injection h' with h'
  subst this;simp [World.frozen?,hh]
 have hc:=h.cells (g:=g) rfl i.toNat (.int k (rd xs i)) (by simp [ac,rd,Mw (show i.toNat<xs.length by omega),My])
 rwa [iu] at hc
theorem pM {W:World}{base g n cap:Nat}{e:TypeId}{k:IntKind}{xs:List Int}(h:W.ownsRow base e 1 (.slice (some ⟨g,0,none⟩) n cap) n (ac k xs))(i x:Int) :
  (W.setCell ⟨g,i.toNat,none⟩ (.int k x)).ownsRow base e 1 (.slice (some ⟨g,0,none⟩) n cap) n (ac k (xs.set i.toNat x))/\W.grownBy (W.setCell ⟨g,i.toNat,none⟩ (.int k x)) (some g):=by
 have hs:=h.stored i.toNat (.int k x);have he:(ac k xs).set i.toNat (.int k x)=ac k (xs.set i.toNat x):=by simp [ac,List.map_set]
 rwa [he] at hs
section
variable {P:Program} {ops:Array Oper} {rest:List Oper} {o:Oper} {a:Act} {Q:Exit->Act->World->Prop}
theorem ol {w0 W:World}(base:Nat)(hgd:o.guard=none)(s x:Operand)(t e:TypeId)(k:IntKind)(bytes:Nat)
  (ho:o.op=.call { callee:=.builtin .append,args:=#[s,x],argTypes:=#[t,t] })
  (ht:P.underlying t=some (.slice e)) (hinfo:(P.info? e).map (fun i=>(i.zero,i.size,i.bytes))=some (some (.int k 0),1,bytes)) (hb0:0<bytes)
  (v:Value) (xs ys:List Int) (A:Option Addr) (m c:Nat) (hs:a.eval s=v) (hx:a.eval x=.slice A m c)
  (HO:W.ownsRow base e 1 v xs.length (ac k xs)) (HR:cA W k A m ys) (HB:Below base w0 W) (hbase:base<=W.heap.size) (hl:(xs.length+m)*bytes<=140737488355328)
  (h:∀ v1 w1,w1.ownsRow base e 1 v1 (xs++ys).length (ac k (xs++ys))->Below base w0 w1->W.grownBy w1 v.ownBlock->(v1.ownBlock=v.ownBlock\/∃ b,v1.ownBlock=some b/\W.heap.size<=b)->wpList P ops Q rest (a.put o.dst v1) w1) :
  wpList P ops Q (o :: rest) a W:=by
 obtain⟨i0,hi,hzz⟩:=Option.map_eq_some_iff.1 hinfo;simp only [Prod.mk.injEq] at hzz;obtain⟨hz0,hz1,hz2⟩:=hzz;have hm:ys.length=m:=HR.1;have hlen:xs.length+m<=140737488355328:=MH (MM _ hb0) hl;have hrun:∃ v1 w1,(Builtin.append_ #[t,t] o.type #[v,.slice A m c]).run P W=.ok v1 w1/\w1.ownsRow base e 1 v1 (xs++ys).length (ac k (xs++ys))/\W.grownBy w1 v.ownBlock/\(v1.ownBlock=v.ownBlock\/v1.ownBlock=some W.heap.size):=by
  rcases A with _ | ad
  ·have h0:m=0:=by
    rcases Nat.eq_zero_or_pos m with h0 | h0
    ·exact h0
    obtain⟨ad,h,_⟩:=HR.2.2 h0;cases h
   subst h0;obtain rfl:ys=[]:=List.eq_nil_of_length_eq_zero hm;refine⟨v,W,?_,by simpa using HO,World.grownBy.refl W _,.inl rfl⟩;rcases HO.2 with⟨rfl,hn⟩ | ⟨g,cap,cur,rfl,_,_,hnc,_⟩
   ·simp [Builtin.append_,run_underlying ht,sizeOf,typeInfo,hi,Builtin.lenOf,Builtin.firstCells]
   simp [Builtin.append_,run_underlying ht,sizeOf,typeInfo,hi,Builtin.lenOf,Builtin.firstCells,hnc,storeCells]
  have hcells:∀ j u,(ac k ys)[j]? = some u->W.cell? (ad.add j)=some u:=by
   intro j u hu;have hj:j<ys.length:=by
    rcases MI j ys.length with h | h
    ·exact h
    simp [ac,MJ h] at hu
   obtain⟨ad',h',hc⟩:=HR.2.2 (by omega);injection h' with h';subst h';have:=hc j (by omega);simp [ac,Mw hj] at hu;subst hu;rw [this];simp [My,Mw hj]
  obtain⟨v1,w1,hr,h2,h3,_,h5⟩:=run_append_own_at (P:=P) W base t o.type e i0 (.int k 0) 1 bytes ht hi hz0 hz1 hz2 rfl (by omega) v xs.length (ac k xs) HO ad m c (ac k ys) (by simp [ac,hm]) hcells
   (by intro u hu;simp only [ac,List.mem_map] at hu;obtain⟨q,_,rfl⟩:=hu;rfl) (by simp only [maxLen];omega) hl hbase
  exact⟨v1,w1,hr,by simpa [ac,hm] using h2,h3,h5⟩
 obtain⟨v1,w1,hr,hown,hg,hat⟩:=hrun;refine wpList_plain hgd fun K hK=>?_
 unfold Oper.wp execOp;simp only [ho,resolve,invoke,builtin,Sem.run_bind,Sem.run_pure,Result.andThen_ok,List.map_toArray,List.map_cons,List.map_nil,hs,hx,hr];refine hK _ _ (h v1 w1 hown (HB.grown hg hbase (cF HO)) hg ?_);rcases hat with hat | hat
 ·exact .inl hat
 exact .inr ⟨_,hat,Nat.le_refl _⟩
end
theorem cA.take_ {w:World}{k:IntKind}{A:Option Addr}{n:Nat}{xs:List Int}(h:cA w k A n xs)(i:Nat)(hi:i<=n):cA w k A i (xs.take i):=by
 refine⟨by rw [MD,h.1];omega,by have:=h.2.1;omega,fun hp=>?_⟩
 obtain⟨ad,e,hc⟩:=h.2.2 (by omega);refine⟨ad,e,fun j hj=>?_⟩;rw [hc j (by omega)];simp [My,hj]
def ae {α:Type}(a b:Option α):Prop:=∀ r,a=some r->b=some r
theorem ae.refl {α:Type}(a:Option α):ae a a:=fun _ h=>h
theorem ae.none {α:Type}(b:Option α):ae Option.none b:=fun _ h=>by cases h
theorem ae.trans {α:Type}{a b c:Option α}(h:ae a b)(k:ae b c):ae a c:=fun r hr=>k r (h r hr)
theorem ae.ite {α:Type}{c:Prop}[Decidable c]{a a' b b':Option α}(h:ae a a')(k:ae b b'):ae (if c then a else b) (if c then a' else b'):=by
 split
 ·exact h
 exact k
theorem ae.bind {α β:Type}{a a':Option α}{f f':α->Option β}(h:ae a a')(k:∀ x,ae (f x) (f' x)):ae (a.bind f) (a'.bind f'):=by
 intro r hr;obtain⟨x,hx,hf⟩:=Option.bind_eq_some_iff.1 hr;exact Option.bind_eq_some_iff.2 ⟨x,h x hx,k x r hf⟩
theorem ae.map {α β:Type}{a a':Option α}(f:α->β)(h:ae a a'):ae (a.map f) (a'.map f):=by
 intro r hr;obtain⟨x,hx,hf⟩:=Option.map_eq_some_iff.1 hr;exact Option.map_eq_some_iff.2 ⟨x,h x hx,hf⟩
theorem uV {α:Type}{g:Nat->Option α}(h:∀ k,ae (g k) (g (k+1)))(k:Nat):∀ j,ae (g k) (g (k+j))
 | 0=>ae.refl _
 | j+1=>(uV h k j).trans (h (k+j))
theorem Bh {α:Type}{g:Nat->Option α}(h:∀ k,ae (g k) (g (k+1))){k k':Nat}(hk:k<=k'){r:α}(hr:g k=some r):g k'=some r:=by
 have:=uV h k (k'-k) r hr
 rwa [Nat.add_sub_cancel' hk] at this
def ar {α:Type}(R:α->List Value->Prop)(size:Nat)(ps:List α)(cs:List Value):Prop :=
 cs.length=ps.length*size/\∀ j p,ps[j]? = some p->R p ((cs.drop (j*size)).take size)
theorem ar.none {α:Type}(R:α->List Value->Prop)(size:Nat):ar R size [] []:=⟨by simp,fun j p h=>by simp at h⟩
theorem ar.snoc {α:Type}{R:α->List Value->Prop}{size:Nat}{ps:List α}{cs c:List Value}{p:α}(h:ar R size ps cs)(hp:R p c)(hc:c.length=size):ar R size (ps++[p]) (cs++c):=by
 refine⟨by rw [MA,h.1,hc,MA,MN,Nat.add_mul,Nat.one_mul],fun j q hq=>?_⟩;rcases MI j ps.length with hj | hj
 rotate_left
 ·have hj':j=ps.length:=by
   have:=(List.getElem?_eq_some_iff.1 hq).1;rw [MA,MN] at this;omega
  subst hj';have hq':p=q:=by simpa using hq
  subst hq';rw [<- h.1,List.drop_left,<- hc,List.take_length];exact hp
 rw [MP hj] at hq;have h1:j*size+size<=cs.length:=by rw [h.1,<- Mz];exact MB _ hj
 have h2:=h.2 j q hq;rw [List.drop_append_of_le_length (by omega),List.take_append_of_le_length (by rw [ME];omega)]
 exact h2
theorem ar.imp_ {α:Type}{R R':α->List Value->Prop}{size:Nat}{ps:List α}{cs:List Value}(h:ar R size ps cs)(hR:∀ p c,R p c->R' p c):ar R' size ps cs:=⟨h.1,fun j p hj=>hR _ _ (h.2 j p hj)⟩
def jN {α:Type}(R:α->List Value->Prop)(size:Nat)(w:World)(A:Option Addr)(n:Nat)(ps:List α):Prop :=
 ps.length=n/\n<=9223372036854775807/\(0<n->∃ ad,A=some ad/\∀ j p,ps[j]? = some p->∃ c,c.length=size/\R p c/\∀ i u,c[i]? = some u->w.cell? (ad.add (j*size+i))=some u)
theorem jN.get_ {α:Type}{R:α->List Value->Prop}{size:Nat}{w:World}{A:Option Addr}{n:Nat}{ps:List α}(h:jN R size w A n ps)(d:α)(i:Int)(h0:0<=i)(h1:i<n) :
  ∃ ad c,A=some ad/\c.length=size/\R (ps.getD i.toNat d) c/\∀ j u,c[j]? = some u->w.cell? (ad.add (i.toNat*size+j))=some u:=by
 obtain⟨ad,e,hc⟩:=h.2.2 (by omega);have hl:i.toNat<ps.length:=by have:=h.1;omega
 obtain⟨c,hs,hr,hcell⟩:=hc i.toNat _ (Mw hl);refine⟨ad,c,e,hs,?_,hcell⟩;rw [My,Mw hl];exact hr
theorem jN.imp_ {α:Type}{R R':α->List Value->Prop}{size:Nat}{w w1:World}{A:Option Addr}{n:Nat}{ps:List α}(h:jN R size w A n ps)(hb:Below w.heap.size w w1)(hR:∀ p c,R p c->R' p c):jN R' size w1 A n ps :=
 ⟨h.1,h.2.1,fun hn=>by
  obtain⟨ad,e,hc⟩:=h.2.2 hn;refine⟨ad,e,fun j p hj=>?_⟩;obtain⟨c,hs,hr,hcell⟩:=hc j p hj;exact⟨c,hs,hR _ _ hr,fun i u hu=>g8 hb (hcell i u hu)⟩⟩
theorem Bi {α:Type}{R:α->List Value->Prop}{w:World}{base n size:Nat}{e:TypeId}{v:Value}{ps:List α}{cs:List Value}(h:w.ownsRow base e size v n cs)(hR:ar R size ps cs)(hn:ps.length=n) :
  ∃ A c,v=.slice A n c/\jN R size w A n ps:=by
 rcases Nat.eq_zero_or_pos n with h0 | h0
 ·rcases h.2 with⟨rfl,rfl⟩ | ⟨g,cap,cur,rfl,_⟩
  ·exact⟨none,0,rfl,hn,by omega,fun hp=>absurd hp (by omega)⟩
  exact⟨_,cap,rfl,hn,by omega,fun hp=>absurd hp (by omega)⟩
 obtain⟨g,cap,rfl,_,_⟩:=h.form h0;have hm:n<=9223372036854775807:=by
  rcases h.2 with⟨_,h1⟩ | ⟨g',cap',cur,he,_,_,h1,h2,_⟩
  ·omega
  simp only [maxLen] at h2;omega
 refine⟨_,cap,rfl,hn,hm,fun _=>⟨_,rfl,fun j p hj=>⟨(cs.drop (j*size)).take size,?_,hR.2 j p hj,fun i u hu=>?_⟩⟩⟩;rotate_left
 ·refine h.cells (g:=g) rfl _ u ?_;rw [MC] at hu
  split at hu
  rotate_left
  ·cases hu
  rw [MF] at hu;exact hu
 have hjl:=(List.getElem?_eq_some_iff.1 hj).1;have h1:j*size+size<=cs.length:=by rw [hR.1,<- Mz];exact MB _ hjl
 rw [MD,ME];omega
theorem Bj (ad:Addr)(m j:Nat)(hj:0<j):ad.add (m+j)=⟨(ad.add m).block,(ad.add m).off+j,none⟩:=by
 unfold Addr.add;by_cases hm:m=0;rotate_left
 ·simp [hm,Nat.add_assoc]
 subst hm;simp [Nat.ne_of_gt hj]
section
variable {P:Program} {ops:Array Oper} {rest:List Oper} {o:Oper} {a:Act} {Q:Exit->Act->World->Prop}
theorem mV {w0 W:World}(base:Nat)(hgd:o.guard=none)(s x:Operand)(t e:TypeId)(z:Value)(size bytes:Nat)
  (ho:o.op=.call { callee:=.builtin .append,args:=#[s,x],argTypes:=#[t,t] })
  (ht:P.underlying t=some (.slice e)) (hinfo:(P.info? e).map (fun i=>(i.zero,i.size,i.bytes))=some (some z,size,bytes)) (hz:z.cells.size=size) (hs0:0<size) (hb0:0<bytes)
  (v:Value) (n:Nat) (xs ys:List Value) (hs:a.eval s=v) (hx:a.eval x=.slice (some ⟨W.heap.size,0,none⟩) 1 1) (hys:ys.length=size) (h1:∀ u∈ys,u.oneCell'=true)
  (HO:W.ownsRow base e size v n xs) (HB:Below base w0 W) (hbase:base<=W.heap.size) (hl:(n+1)*bytes<=140737488355328)
  (h:∀ v1 w1,w1.ownsRow base e size v1 (n+1) (xs++ys)->Below base w0 w1->W.grownBy w1 v.ownBlock->(v1.ownBlock=v.ownBlock\/∃ b,v1.ownBlock=some b/\W.heap.size<=b)->wpList P ops Q rest (a.put o.dst v1) w1) :
  wpList P ops Q (o :: rest) a (W.alloc (.cells ys.toArray e)):=by
 obtain⟨i0,hi,hzz⟩:=Option.map_eq_some_iff.1 hinfo;simp only [Prod.mk.injEq] at hzz;obtain⟨hz0,hz1,hz2⟩:=hzz;have hlen:n+1<=140737488355328:=MH (MM _ hb0) hl;refine wpList_append_own_at (W.alloc (.cells ys.toArray e)) hgd s x t ho base e i0 z size bytes ht hi hz0 hz1 hz2 hz hs0 v n xs hs (HO.alloc _) ⟨W.heap.size,0,none⟩ 1 1 ys hx (by rw [hys];simp)
  (by simpa using World.news_of_block (cs:=ys.toArray) (t:=e) (fr:=(0,0)) (heap_alloc_new W (.cells ys.toArray e))) h1 (by simp only [maxLen];omega) hl (by simp;omega) ?_
 intro v1 w1 hown hg _ hat;refine h v1 w1 hown ((HB.alloc hbase _).grown hg (by simp;omega) (cF HO)) (World.grownBy.trans (World.grownBy_alloc W _ _) hg) ?_
 rcases hat with hat | hat
 ·exact .inl hat
 exact .inr ⟨_,hat,by simp⟩
end
theorem own_ne {w:World}{base:Nat}{e t:TypeId}{size n g:Nat}{v:Value}{xs:List Value}{cs:Array Value}(h:w.ownsRow base e size v n xs)(hg:w.heap[g]? = some (.cells cs t (0,0)))(hne:e≠t):some g≠v.ownBlock:=by
 rcases h.2 with⟨rfl,_⟩ | ⟨g',cap,cur,rfl,_,hh,_⟩
 ·simp [Value.ownBlock]
 intro he;have:g=g':=by simpa [Value.ownBlock] using he
 subst this;rw [hg] at hh;injection hh with hh;injection hh with _ ht;exact hne ht.symm
theorem bK {w:World}{g:Nat}{t:TypeId}{cs:Array Value}(h:w.heap[g]? = some (.cells cs t (0,0)))(i:Nat)(u:Value):(w.setCell ⟨g,i,none⟩ u).heap[g]? = some (.cells (cs.setIfInBounds i u) t (0,0)):=by
 simp [World.setCell,Array.getElem?_modify,h]
theorem sx {w:World}{g:Nat}{t:TypeId}{cs:Array Value}(h:w.heap[g]? = some (.cells cs t (0,0))){p:Addr}(hp:g≠p.block)(u:Value):(w.setCell p u).heap[g]? = some (.cells cs t (0,0)):=(Below.heap_setCell w p u g hp).trans h
theorem ky {w:World}{g:Nat}{o:Obj}(h:w.heap[g]? = some o):g<w.heap.size:=(Array.getElem?_eq_some_iff.1 h).1
theorem kA {w:World}{g:Nat}{t:TypeId}{cs:Array Value}(h:w.heap[g]? = some (.cells cs t (0,0)))(i:Nat):w.cell? ⟨g,i,none⟩=cs[i]?:=cell_of_row w g i cs t (0,0) h
theorem jO {w:World}{g:Nat}{t:TypeId}{cs:Array Value}(h:w.heap[g]? = some (.cells cs t (0,0)))(i:Nat):w.frozen? ⟨g,i,none⟩=false:=by simp [World.frozen?,h]
theorem uW {w w1:World}{g:Nat}{o:Obj}{row:Option Nat}(h:w.heap[g]? = some o)(hg:w.grownBy w1 row)(hne:some g≠row):w1.heap[g]? = some o:=(hg.block g (ky h) hne).trans h
theorem bd {w:World}{g g':Nat}{t t':TypeId}{cs cs':Array Value}(h:w.heap[g]? = some (.cells cs t (0,0)))(h':w.heap[g']? = some (.cells cs' t' (0,0)))(hne:t≠t'):g≠g':=by
 rintro rfl;rw [h] at h';injection h' with h';injection h' with _ ht;exact hne ht
def gj (w w':World)(g:Nat)(row:Option Nat):Prop:=w.heap.size<=w'.heap.size/\∀ i,i<w.heap.size->i≠g->some i≠row->w'.heap[i]? = w.heap[i]?
theorem gj.refl (w:World)(g:Nat)(row:Option Nat):gj w w g row:=⟨Nat.le_refl _,fun _ _ _ _=>rfl⟩
theorem gj.trans {w w1 w2:World}{g:Nat}{row row1:Option Nat}(h:gj w w1 g row)(k:gj w1 w2 g row1)(hr:row1=row\/∃ b,row1=some b/\w.heap.size<=b):gj w w2 g row :=
 ⟨MH h.1 k.1,fun i hi hg hn=>by
  refine (k.2 i (Nat.lt_of_lt_of_le hi h.1) hg ?_).trans (h.2 i hi hg hn);rcases hr with rfl | ⟨b,rfl,hb⟩
  ·exact hn
  intro e;injection e with e;omega⟩
theorem gj.blk {w w1:World}{g g':Nat}{row:Option Nat}{o:Obj}(h:gj w w1 g row)(hb:w.heap[g']? = some o)(hg:g'≠g)(hr:some g'≠row):w1.heap[g']? = some o:=(h.2 g' (ky hb) hg hr).trans hb
theorem gj.own {w w1:World}{g:Nat}{row:Option Nat}{base:Nat}{e:TypeId}{size n:Nat}{v:Value}{xs:List Value}(h:gj w w1 g row)(ho:w.ownsRow base e size v n xs)(hg:v.ownBlock≠some g)(hr:v.ownBlock=none\/v.ownBlock≠row):w1.ownsRow base e size v n xs:=by
 obtain⟨h1,h2⟩:=ho;refine⟨h1,?_⟩;rcases h2 with h2 | ⟨b,cap,cur,rfl,hb,hh,r⟩
 ·exact .inl h2
 refine .inr ⟨b,cap,cur,rfl,hb,h.blk hh ?_ ?_,r⟩
 ·intro e;exact hg (by rw [<- e];rfl)
 rcases hr with hr | hr
 ·simp [Value.ownBlock] at hr
 exact hr
def Ev {α:Type}(g:Nat->Option α)(r:α):Prop:=∃ K,∀ k,K<=k->g k=some r
theorem Ev.of {α:Type}{g:Nat->Option α}{r:α}(hg:∀ k,ae (g k) (g (k+1))){k:Nat}(h:g k=some r):Ev g r:=⟨k,fun _ hk=>Bh hg hk h⟩
theorem Ev.now {α:Type}(r:α):Ev (fun _=>some r) r:=⟨0,fun _ _=>rfl⟩
theorem Ev.rounds {α:Type}{g:Nat->Option α}{r:α}(h:Ev g r):∃ k,g k=some r:=by
 obtain⟨K,h⟩:=h;exact⟨K,h K (Nat.le_refl _)⟩
theorem Ev.bind {α β:Type}{g:Nat->Option α}{f:Nat->α->Option β}{a:α}{r:β}(h:Ev g a)(k:Ev (fun n=>f n a) r):Ev (fun n=>(g n).bind (f n)) r:=by
 obtain⟨K,h⟩:=h;obtain⟨K',k⟩:=k;refine⟨max K K',fun n hn=>?_⟩;have h1:=h n (by omega);have h2:=k n (by omega);simp only [h1,Option.bind_some];exact h2
theorem Ev.step {α:Type}{g f:Nat->Option α}{r:α}(h:∀ k,g (k+1)=f k)(k:Ev f r):Ev g r:=by
 obtain⟨K,k⟩:=k;refine⟨K+1,fun n hn=>?_⟩;obtain⟨m,rfl⟩:∃ m,n=m+1:=⟨n-1,by omega⟩;rw [h];exact k m (by omega)
theorem Ev.congr {α:Type}{g f:Nat->Option α}{r:α}(h:∀ k,g k=f k)(k:Ev f r):Ev g r:=by
 obtain⟨K,k⟩:=k;exact⟨K,fun n hn=>(h n).trans (k n hn)⟩
theorem uX {w:World}{base base':Nat}{e:TypeId}{size n:Nat}{v:Value}{xs:List Value}(h:w.ownsRow base e size v n xs)(hb:base'<=base):w.ownsRow base' e size v n xs:=by
 obtain⟨h1,h2⟩:=h;refine⟨h1,?_⟩;rcases h2 with h2 | ⟨g,cap,cur,rfl,hg,r⟩
 ·exact .inl h2
 exact .inr ⟨g,cap,cur,rfl,MH hb hg,r⟩
section
variable {α:Type} {enc:α->Value} {d:α}
def eJ (enc:α->Value)(xs:List α):List Value:=xs.map enc
def oo (d:α)(xs:List α)(i:Int):α:=xs.getD i.toNat d
theorem uY (xs:List α):(eJ enc xs).length=xs.length:=by simp [eJ]
theorem Bk (xs:List α)(j:Nat)(h:j<xs.length):(eJ enc xs)[j]? = some (enc (xs.getD j d)):=by
 simp [eJ,Mw h,My]
def dp (enc:α->Value)(d:α)(w:World)(A:Option Addr)(n:Nat)(xs:List α):Prop :=
 xs.length=n/\n<=9223372036854775807/\(0<n->∃ ad,A=some ad/\∀ j,j<n->w.cell? (ad.add j)=some (enc (xs.getD j d)))
theorem dp.at_ {w:World}{A:Option Addr}{n:Nat}{xs:List α}(h:dp enc d w A n xs)(i:Int)(h0:0<=i)(h1:i<n):∃ ad,A=some ad/\w.cell? (ad.add i.toNat)=some (enc (oo d xs i)):=by
 obtain⟨ad,e,hc⟩:=h.2.2 (by omega);exact⟨ad,e,hc _ (by omega)⟩
theorem dp.below {w w1:World}{A:Option Addr}{n:Nat}{xs:List α}(h:dp enc d w A n xs)(hb:Below w.heap.size w w1):dp enc d w1 A n xs :=
 ⟨h.1,h.2.1,fun hn=>by
  obtain⟨ad,e,hc⟩:=h.2.2 hn;exact⟨ad,e,fun j hj=>g8 hb (hc j hj)⟩⟩
theorem dp.take_ {w:World}{A:Option Addr}{n:Nat}{xs:List α}(h:dp enc d w A n xs)(i:Nat)(hi:i<=n):dp enc d w A i (xs.take i):=by
 refine⟨by rw [MD,h.1];omega,by have:=h.2.1;omega,fun hp=>?_⟩
 obtain⟨ad,e,hc⟩:=h.2.2 (by omega);refine⟨ad,e,fun j hj=>?_⟩;rw [hc j (by omega)];simp [My,hj]
theorem dp.drop_ {w:World}{A:Option Addr}{n c:Nat}{xs:List α}(h:dp enc d w A n xs)(i:Nat)(hi:i<=n)(hc:n<=c):dp enc d w (if c=i then A else A.map (·.add i)) (n-i) (xs.drop i):=by
 refine⟨by rw [ME,h.1],by have:=h.2.1;omega,fun hp=>?_⟩
 obtain⟨ad,rfl,hcell⟩:=h.2.2 (by omega);rw [if_neg (by omega)];refine⟨ad.add i,rfl,fun j hj=>?_⟩;have ha:(ad.add i).add j=ad.add (i+j):=by
  unfold Addr.add;by_cases h1:i=0<;>by_cases h2:j=0<;>simp [h1,h2,Nat.add_assoc]
 rw [ha,hcell (i+j) (by omega)];simp [My,MF]
theorem Bl {P:Program}(enc:α->Value)(d:α)(t e:TypeId)(kl:IntKind){i:TypeInfo}(ht:P.underlying t=some (.slice e))(hi:P.info? e=some i)(hsz:i.size=1)(A:Option Addr)(n c m:Nat)(hm:m<=n) :
  ∃ A':Option Addr,(∀ W:World,(Instr.slice t (.slice A n c) (some (.int kl (m:Int))) none none).run P W=.ok (.slice A' (n-m) (c-m)) W)/\
   ∀ (w:World) (xs:List α),n<=c->dp enc d w A n xs->dp enc d w A' (n-m) (xs.drop m):=by
 refine⟨if c=m then A else A.map (·.add m),fun W=>?_,fun w xs hc h=>h.drop_ m hm hc⟩;have hel:P.elem t=e:=by simp [Program.elem,ht]
 have hu:P.underlying t=some (.slice (P.elem t)):=by rw [hel];exact ht
 rw [run_slice_l W t A n c hu kl (m:Int) (Int.natCast_nonneg _) (by omega),hel];simp [sizeOf,typeInfo,hi,hsz,sliced,Result.andThen]
theorem Bm {W:World}{base g n cap:Nat}{e:TypeId}{xs:List α}(h:W.ownsRow base e 1 (.slice (some ⟨g,0,none⟩) n cap) n (eJ enc xs))(i:Int)(h0:0<=i)(h1:i<n) :
  W.cell? ⟨g,i.toNat,none⟩=some (enc (oo d xs i))/\W.frozen? ⟨g,i.toNat,none⟩=false:=by
 have hl:xs.length=n:=by have:=h.1;simp [eJ] at this;exact this
 constructor
 ·have hc:=h.cells (g:=g) rfl i.toNat _ (Bk (d:=d) xs i.toNat (by omega))
  rwa [iu] at hc
 rcases h.2 with⟨h',_⟩ | ⟨g',cap',cur,h',_,hh,_⟩
 ·cases h'
 have:g=g':=by injection h' with h';injection h' with h';injection h' with h'
 subst this;simp [World.frozen?,hh]
theorem Bn {W:World}{base g n cap:Nat}{e:TypeId}{xs:List α}(h:W.ownsRow base e 1 (.slice (some ⟨g,0,none⟩) n cap) n (eJ enc xs))(i:Int)(x:α) :
  (W.setCell ⟨g,i.toNat,none⟩ (enc x)).ownsRow base e 1 (.slice (some ⟨g,0,none⟩) n cap) n (eJ enc (xs.set i.toNat x))/\W.grownBy (W.setCell ⟨g,i.toNat,none⟩ (enc x)) (some g):=by
 have hs:=h.stored i.toNat (enc x);have he:(eJ enc xs).set i.toNat (enc x)=eJ enc (xs.set i.toNat x):=by simp [eJ,List.map_set]
 rwa [he] at hs
end
theorem mh {w:World}{g:Nat}{o:Obj}(h:w.heap[g]? = some o)(o':Obj):(w.alloc o').heap[g]? = some o:=(Below.heap_alloc w o' g (ky h)).trans h
theorem mW {w:World}{g:Nat}{o:Obj}(h:w.heap[g]? = some o):w.drew.heap[g]? = some o:=h
theorem mX {w:World}{g:Nat}{o:Obj}(h:w.heap[g]? = some o)(n:Nat):(w.drewN n).heap[g]? = some o:=h
theorem uZ {w w1:World}{g:Nat}{o:Obj}(h:w.heap[g]? = some o)(hb:Below w.heap.size w w1):w1.heap[g]? = some o:=(hb.block g (ky h)).trans h
theorem Bo (w:World)(o:Obj):(w.alloc o).heap[w.heap.size]? = some o:=heap_alloc_new w o
theorem Bp {w:World}{base n m c size:Nat}{e:TypeId}{A:Option Addr}{xs:List Value}(h:w.ownsRow base e size (.slice A m c) n xs):m<=c:=by
 rcases h.2 with⟨he,_⟩ | ⟨g,cap,cur,he,_,_,hnc,_⟩
 ·injection he with _ h2 h3;omega
 injection he with _ h2 h3;omega
def du {α:Type}(R:α->List Value->Prop)(e:TypeId)(size:Nat)(w:World)(base:Nat)(v:Value)(ps:List α):Prop :=
 ∃ inner,w.ownsRow base e size v ps.length inner/\ar R size ps inner
section
variable {α:Type} {R R':α->List Value->Prop} {e:TypeId} {size:Nat} {w w1:World} {base:Nat} {v:Value} {ps:List α}
theorem du.none_ (R:α->List Value->Prop)(e:TypeId)(size:Nat)(w:World)(base:Nat):du R e size w base (.slice none 0 0) []:=⟨[],Bf _ _ _ _,ar.none _ _⟩
theorem du.imp_ (h:du R e size w base v ps)(hR:∀ p c,R p c->R' p c):du R' e size w base v ps:=by
 obtain⟨inner,ho,hr⟩:=h;exact⟨inner,ho,hr.imp_ hR⟩
theorem du.below (h:du R e size w base v ps)(hb:Below w.heap.size w w1):du R e size w1 base v ps:=by
 obtain⟨inner,ho,hr⟩:=h;exact⟨inner,Bg ho hb,hr⟩
theorem du.keep (h:du R e size w base v ps){g:Nat}{t:TypeId}{cells:Array Value}(hb:w.heap[g]? = some (.cells cells t (0,0)))(ht:e≠t)(hk:gj w w1 g none):du R e size w1 base v ps:=by
 obtain⟨inner,ho,hr⟩:=h;exact⟨inner,hk.own ho (Ne.symm (own_ne ho hb ht)) (by cases v.ownBlock<;>simp),hr⟩
theorem du.lower (h:du R e size w base v ps){base':Nat}(hb:base'<=base):du R e size w base' v ps:=by
 obtain⟨inner,ho,hr⟩:=h;exact⟨inner,uX ho hb,hr⟩
theorem du.reads (h:du R e size w base v ps):∃ A c,v=.slice A ps.length c/\ps.length<=c/\jN R size w A ps.length ps:=by
 obtain⟨inner,ho,hr⟩:=h;obtain⟨A,c,rfl,hrow⟩:=Bi ho hr rfl;exact⟨A,c,rfl,Bp ho,hrow⟩
theorem du.ne_block (h:du R e size w base v ps){g:Nat}{t:TypeId}{cells:Array Value}(hb:w.heap[g]? = some (.cells cells t (0,0)))(ht:e≠t):some g≠v.ownBlock:=by
 obtain⟨inner,ho,hr⟩:=h;exact own_ne ho hb ht
theorem du.lit (W:World)(base:Nat){inner:List Value}(hr:ar R size ps inner)(hb:base<=W.heap.size)(hm:ps.length<=9223372036854775807) :
  du R e size (W.alloc (.cells inner.toArray e)) base (.slice (some ⟨W.heap.size,0,none⟩) ps.length ps.length) ps:=by
 have h:=World.ownsRow_lit (base:=base) (e:=e) (size:=size) W inner.toArray ps.length hb (by simpa [maxLen] using hm) (by simpa using hr.1);exact⟨inner,by simpa using h,hr⟩
end
section
variable {P:Program} {ops:Array Oper} {rest:List Oper} {o:Oper} {a:Act} {Q:Exit->Act->World->Prop} {α:Type} {R:α->List Value->Prop}
theorem du.append {w0 W:World}(base:Nat)(hgd:o.guard=none)(s x:Operand)(t e:TypeId)(z:Value)(size bytes:Nat)
  (ho:o.op=.call { callee:=.builtin .append,args:=#[s,x],argTypes:=#[t,t] })
  (ht:P.underlying t=some (.slice e)) (hinfo:(P.info? e).map (fun i=>(i.zero,i.size,i.bytes))=some (some z,size,bytes)) (hz:z.cells.size=size) (hs0:0<size) (hb0:0<bytes)
  (v:Value) (ps:List α) (p:α) (cs:List Value) (hs:a.eval s=v) (hx:a.eval x=.slice (some ⟨W.heap.size,0,none⟩) 1 1) (hp:R p cs) (hcs:cs.length=size) (h1:∀ u∈cs,u.oneCell'=true)
  (HO:du R e size W base v ps) (HB:Below base w0 W) (hbase:base<=W.heap.size) (hl:(ps.length+1)*bytes<=140737488355328)
  (h:∀ v1 w1,du R e size w1 base v1 (ps++[p])->Below base w0 w1->W.grownBy w1 v.ownBlock->(v1.ownBlock=v.ownBlock\/∃ b,v1.ownBlock=some b/\W.heap.size<=b)->wpList P ops Q rest (a.put o.dst v1) w1) :
  wpList P ops Q (o :: rest) a (W.alloc (.cells cs.toArray e)):=by
 obtain⟨inner,hown,hr⟩:=HO;refine mV base hgd s x t e z size bytes ho ht hinfo hz hs0 hb0 v ps.length inner cs hs hx hcs h1 hown HB hbase hl ?_;intro v1 w1 hown1 hb1 hg1 hat1;exact h v1 w1 ⟨inner++cs,by rw [MA,MN];exact hown1,hr.snoc hp hcs⟩ hb1 hg1 hat1
end
section
variable {α:Type} {P:Program}
theorem Bq (enc:α->Value)(d:α)(t e:TypeId)(kl:IntKind){i:TypeInfo}(ht:P.underlying t=some (.slice e))(hi:P.info? e=some i)(hsz:i.size=1)(A:Option Addr)(c:Nat)(xs:List α)(j:Int)(h0:0<=j)(hm:j<=xs.length)(hc:xs.length<=c) :
  ∃ A':Option Addr,(∀ W:World,(Instr.slice t (.slice A xs.length c) (some (.int kl j)) none none).run P W=.ok (.slice A' (xs.drop j.toNat).length (c-j.toNat)) W)/\
   (∀ w:World,dp enc d w A xs.length xs->dp enc d w A' (xs.drop j.toNat).length (xs.drop j.toNat))/\(xs.drop j.toNat).length<=c-j.toNat:=by
 obtain⟨m,rfl⟩:=Int.eq_ofNat_of_zero_le h0;simp only [Int.toNat_natCast];have hmn:m<=xs.length:=by omega
 obtain⟨A',h1,h2⟩:=Bl (P:=P) enc d t e kl ht hi hsz A xs.length c m hmn;have hl:(xs.drop m).length=xs.length-m:=ME;exact⟨A',fun W=>by rw [hl];exact h1 W,fun w h=>by rw [hl];exact h2 w xs hc h,by rw [hl];omega⟩
end
structure Kd (α:Type) where
 sz:Nat
 E:List Nat
 K:World->α->List Value->Prop
 M:World->Nat->(Nat->Prop)->α->List Value->Prop
 K_len:∀ {w x cs},K w x cs->cs.length=sz
 K_one:∀ {w x cs},K w x cs->∀ u∈cs,u.oneCell'=true
 K_below:∀ {w w1:World} {x cs},Below w.heap.size w w1->K w x cs->K w1 x cs
 K_of_M:∀ {w base ok x cs},M w base ok x cs->K w x cs
 M_mono:∀ {w base ok ok' x cs},(∀ k,ok k->ok' k)->M w base ok x cs->M w base ok' x cs
 M_bound:∀ {w:World} {base ok x cs},M w base ok x cs->M w base (fun k=>ok k/\base<=k/\k<w.heap.size/\∃ q,q∈E/\∃ cells,w.heap[k]? = some (.cells cells q (0,0))) x cs
 M_move:∀ {w w1:World} {base ok x cs},(∀ k,ok k->w1.heap[k]? = w.heap[k]?)->M w base ok x cs->M w1 base ok x cs
 M_lower:∀ {w base base' ok x cs},base'<=base->M w base ok x cs->M w base' ok x cs
theorem ei {w w1:World}{base:Nat}{e:TypeId}{size n:Nat}{v:Value}{xs:List Value}(h:w.ownsRow base e size v n xs)(hm:∀ k,v.ownBlock=some k->w1.heap[k]? = w.heap[k]?):w1.ownsRow base e size v n xs:=by
 obtain⟨h1,h2⟩:=h;refine⟨h1,?_⟩;rcases h2 with h2 | ⟨g,cap,cur,rfl,hg,hh,r⟩
 ·exact .inl h2
 exact .inr ⟨g,cap,cur,rfl,hg,(hm g (by simp [Value.ownBlock])).trans hh,r⟩
theorem pN {w:World}{base:Nat}{e:TypeId}{size n:Nat}{v:Value}{xs:List Value}(h:w.ownsRow base e size v n xs)(k:Nat)(hk:v.ownBlock=some k):∃ cells,w.heap[k]? = some (.cells cells e (0,0)):=by
 rcases h.2 with⟨rfl,_⟩ | ⟨g,cap,cur,rfl,hg,hh,r⟩
 ·simp [Value.ownBlock] at hk
 have:g=k:=by simpa [Value.ownBlock] using hk
 subst this;exact⟨cur,hh⟩
namespace Kd
def C {α:Type}(d:Kd α)(w:World)(A:Option Addr)(n:Nat)(xs:List α):Prop:=jN (d.K w) d.sz w A n xs
def R {α:Type}(d:Kd α)(e:Nat)(w:World)(base:Nat)(ok:Nat->Prop)(v:Value)(xs:List α):Prop :=
 (∀ k,v.ownBlock=some k->ok k)/\du (d.M w base (fun k=>ok k/\some k≠v.ownBlock)) e d.sz w base v xs
section
variable {α:Type} {d:Kd α} {e:Nat} {w w1:World} {base:Nat} {ok ok':Nat->Prop} {v:Value} {xs:List α}
theorem bB {A:Option Addr}{n:Nat}(h:d.C w A n xs)(hb:Below w.heap.size w w1):d.C w1 A n xs:=jN.imp_ h hb (fun _ _ hp=>d.K_below hb hp)
theorem oq (d:Kd α)(e:Nat)(w:World)(base:Nat)(ok:Nat->Prop):d.R e w base ok (.slice none 0 0) []:=⟨fun k hk=>by simp [Value.ownBlock] at hk,du.none_ _ _ _ _ _⟩
theorem eK (h:d.R e w base ok v xs)(hok:∀ k,ok k->ok' k):d.R e w base ok' v xs:=⟨fun k hk=>hok k (h.1 k hk),h.2.imp_ (fun _ _ hp=>d.M_mono (fun k hk=>⟨hok k hk.1,hk.2⟩) hp)⟩
theorem mi (h:d.R e w base ok v xs):d.R e w base (fun k=>ok k/\base<=k/\k<w.heap.size/\∃ q,q∈e :: d.E/\∃ cells,w.heap[k]? = some (.cells cells q (0,0))) v xs:=by
 obtain⟨h0,inner,ho,hr⟩:=h;refine⟨fun k hk=>?_,inner,ho,hr.imp_ (fun _ _ hp=>d.M_mono (fun k hk=>?_) (d.M_bound hp))⟩;rotate_left
 ·obtain⟨⟨h1,h2⟩,h3,h4,q,hq,hc⟩:=hk;exact⟨⟨h1,h3,h4,q,List.mem_cons_of_mem _ hq,hc⟩,h2⟩
 obtain⟨cells,hc⟩:=pN ho k hk;exact⟨h0 k hk,cF ho k hk,uU ho k hk,e,List.mem_cons_self,cells,hc⟩
theorem ot (h:d.R e w base ok v xs)(hm:∀ k,ok k->w1.heap[k]? = w.heap[k]?):d.R e w1 base ok v xs:=by
 obtain⟨h0,inner,ho,hr⟩:=h;exact⟨h0,inner,ei ho (fun k hk=>hm k (h0 k hk)),hr.imp_ (fun _ _ hp=>d.M_move (fun k hk=>hm k hk.1) hp)⟩
theorem fz {base':Nat}(h:d.R e w base ok v xs)(hb:base'<=base):d.R e w base' ok v xs:=by
 obtain⟨h0,inner,ho,hr⟩:=h;exact⟨h0,inner,uX ho hb,hr.imp_ (fun _ _ hp=>d.M_lower hb hp)⟩
theorem mj (h:d.R e w base ok v xs)(hm:∀ k,ok k->k<w.heap.size->w1.heap[k]? = w.heap[k]?):d.R e w1 base ok v xs :=
 eK (ot (mi h) (fun k hk=>hm k hk.1 hk.2.2.1)) (fun _ hk=>hk.1)
theorem u7 {x:α}{cs:List Value}(h:d.M w base ok x cs)(hm:∀ k,ok k->k<w.heap.size->w1.heap[k]? = w.heap[k]?):d.M w1 base ok x cs :=
 d.M_mono (fun _ hk=>hk.1) (d.M_move (fun k hk=>hm k hk.1 hk.2.2.1) (d.M_bound h))
theorem eC (h:d.R e w base ok v xs)(hb:Below w.heap.size w w1):d.R e w1 base ok v xs:=mj h (fun k _ hk=>hb.block k hk)
theorem Br {x:α}{cs:List Value}(h:d.M w base ok x cs)(hb:Below w.heap.size w w1):d.M w1 base ok x cs:=u7 h (fun k _ hk=>hb.block k hk)
theorem u9 (h:d.R e w base ok v xs){row:Option Nat}(hg:w.grownBy w1 row)(hok:∀ k,ok k->some k≠row):d.R e w1 base ok v xs:=mj h (fun k ho hk=>hg.block k hk (hok k ho))
theorem sA (h:d.R e w base ok v xs){p:Addr}(hok:∀ k,ok k->k≠p.block)(u:Value):d.R e (w.setCell p u) base ok v xs:=mj h (fun k ho _=>Below.heap_setCell w p u k (hok k ho))
theorem sC (h:d.R e w base ok v xs){g t:Nat}{cells:Array Value}(hb:w.heap[g]? = some (.cells cells t (0,0)))(ht:∀ q,q∈e :: d.E->q≠t):d.R e w base (fun k=>ok k/\k≠g) v xs :=
 eK (mi h) (fun k hk=>⟨hk.1,by
  obtain⟨_,_,_,q,hq,cells',hc⟩:=hk;rintro rfl;rw [hc] at hb;injection hb with hb;injection hb with _ hb;exact ht q hq hb⟩)
theorem kB (h:d.R e w base ok v xs):∃ A c,v=.slice A xs.length c/\xs.length<=c/\d.C w A xs.length xs:=by
 obtain⟨A,c,he,hl,hr⟩:=du.reads h.2;exact⟨A,c,he,hl,hr.imp_ (Below.refl _ _) (fun _ _ hp=>d.K_of_M hp)⟩
theorem jP (h:d.R e w base ok v xs):∃ A c,v=.slice A xs.length c:=by
 obtain⟨A,c,he,_⟩:=kB h;exact⟨A,c,he⟩
theorem ou (h:d.R e w base ok v xs):∃ inner,w.ownsRow base e d.sz v xs.length inner:=by
 obtain⟨_,inner,ho,_⟩:=h;exact⟨inner,ho⟩
theorem vl (h:d.R e w base ok v xs){g t:Nat}{cells:Array Value}(hb:w.heap[g]? = some (.cells cells t (0,0)))(ht:e≠t):some g≠v.ownBlock:=du.ne_block h.2 hb ht
end
def fA {α:Type}(enc:α->Value)(h1:∀ x,(enc x).oneCell'=true):Kd α where
 sz:=1
 E:=[]
 K:=fun _ x cs=>cs=[enc x]
 M:=fun _ _ _ x cs=>cs=[enc x]
 K_len:=fun h=>by rw [h];rfl
 K_one:=fun h u hu=>by
  rw [h] at hu
  rw [List.mem_singleton.1 hu]
  exact h1 _
 K_below:=fun _ h=>h
 K_of_M:=fun h=>h
 M_mono:=fun _ h=>h
 M_bound:=fun h=>h
 M_move:=fun _ h=>h
 M_lower:=fun _ h=>h
def int (k:IntKind):Kd Int:=fA (Value.int k) (fun _=>rfl)
def bool:Kd Bool:=fA Value.bool (fun _=>rfl)
def string:Kd ByteArray:=fA Value.string (fun _=>rfl)
def slice {α:Type}(e:Nat)(d:Kd α):Kd (List α) where
 sz:=1
 E:=e :: d.E
 K:=fun w xs cs=>∃ A c,cs=[.slice A xs.length c]/\xs.length<=c/\d.C w A xs.length xs
 M:=fun w base ok xs cs=>∃ v,cs=[v]/\d.R e w base ok v xs
 K_len:=by
  rintro w x cs ⟨A,c,rfl,_⟩
  rfl
 K_one:=by
  rintro w x cs ⟨A,c,rfl,_⟩ u hu
  rw [List.mem_singleton.1 hu]
  rfl
 K_below:=by
  rintro w w1 x cs hb ⟨A,c,rfl,hl,hr⟩
  exact⟨A,c,rfl,hl,bB hr hb⟩
 K_of_M:=by
  rintro w base ok x cs ⟨v,rfl,h⟩
  obtain⟨A,c,rfl,hl,hr⟩:=kB h
  exact⟨A,c,rfl,hl,hr⟩
 M_mono:=by
  rintro w base ok ok' x cs hok ⟨v,rfl,h⟩
  exact⟨v,rfl,eK h hok⟩
 M_bound:=by
  rintro w base ok x cs ⟨v,rfl,h⟩
  exact⟨v,rfl,mi h⟩
 M_move:=by
  rintro w w1 base ok x cs hm ⟨v,rfl,h⟩
  exact⟨v,rfl,ot h hm⟩
 M_lower:=by
  rintro w base base' ok x cs hb ⟨v,rfl,h⟩
  exact⟨v,rfl,fz h hb⟩
def sD {α β:Type}(a:Kd α)(b:Kd β):Kd (α×β) where
 sz:=a.sz+b.sz
 E:=a.E++b.E
 K:=fun w x cs=>∃ c0 c1,cs=c0++c1/\a.K w x.1 c0/\b.K w x.2 c1
 M:=fun w base ok x cs=>∃ c0 c1,cs=c0++c1/\a.M w base ok x.1 c0/\b.M w base ok x.2 c1
 K_len:=by
  rintro w x cs ⟨c0,c1,rfl,h0,h1⟩
  rw [MA,a.K_len h0,b.K_len h1]
 K_one:=by
  rintro w x cs ⟨c0,c1,rfl,h0,h1⟩ u hu
  rcases List.mem_append.1 hu with hu | hu
  ·exact a.K_one h0 u hu
  ·exact b.K_one h1 u hu
 K_below:=by
  rintro w w1 x cs hb ⟨c0,c1,rfl,h0,h1⟩
  exact⟨c0,c1,rfl,a.K_below hb h0,b.K_below hb h1⟩
 K_of_M:=by
  rintro w base ok x cs ⟨c0,c1,rfl,h0,h1⟩
  exact⟨c0,c1,rfl,a.K_of_M h0,b.K_of_M h1⟩
 M_mono:=by
  rintro w base ok ok' x cs hok ⟨c0,c1,rfl,h0,h1⟩
  exact⟨c0,c1,rfl,a.M_mono hok h0,b.M_mono hok h1⟩
 M_bound:=by
  rintro w base ok x cs ⟨c0,c1,rfl,h0,h1⟩
  refine⟨c0,c1,rfl,a.M_mono ?_ (a.M_bound h0),b.M_mono ?_ (b.M_bound h1)⟩
  ·rintro k ⟨h2,h3,h4,q,hq,hc⟩
   exact⟨h2,h3,h4,q,List.mem_append_left _ hq,hc⟩
  ·rintro k ⟨h2,h3,h4,q,hq,hc⟩
   exact⟨h2,h3,h4,q,List.mem_append_right _ hq,hc⟩
 M_move:=by
  rintro w w1 base ok x cs hm ⟨c0,c1,rfl,h0,h1⟩
  exact⟨c0,c1,rfl,a.M_move hm h0,b.M_move hm h1⟩
 M_lower:=by
  rintro w base base' ok x cs hb ⟨c0,c1,rfl,h0,h1⟩
  exact⟨c0,c1,rfl,a.M_lower hb h0,b.M_lower hb h1⟩
def iso {α β:Type}(d:Kd α)(f:β->α):Kd β where
 sz:=d.sz
 E:=d.E
 K:=fun w x cs=>d.K w (f x) cs
 M:=fun w base ok x cs=>d.M w base ok (f x) cs
 K_len:=d.K_len
 K_one:=d.K_one
 K_below:=d.K_below
 K_of_M:=d.K_of_M
 M_mono:=d.M_mono
 M_bound:=d.M_bound
 M_move:=d.M_move
 M_lower:=d.M_lower
theorem mY {α:Type}{d:Kd α}{w:World}{A:Option Addr}{n:Nat}{xs:List α}(h:d.C w A n xs)(z:α)(i:Int)(h0:0<=i)(h1:i<n) :
  ∃ ad c,A=some ad/\c.length=d.sz/\d.K w (xs.getD i.toNat z) c/\∀ j u,c[j]? = some u->w.cell? (ad.add (i.toNat*d.sz+j))=some u:=jN.get_ h z i h0 h1
theorem Bs {α:Type}{d:Kd α}{e base:Nat}{ok okp:Nat->Prop}{W w1:World}{v v1:Value}{xs:List α}{p:α}{inner cs:List Value}(h0:∀ k,v.ownBlock=some k->ok k)(hr:ar (d.M W base (fun k=>ok k/\some k≠v.ownBlock)) d.sz xs inner)(hp:d.M W base okp p cs)(hokp:∀ k,okp k->ok k/\some k≠v.ownBlock)(hfresh:∀ k,W.heap.size<=k->ok k)
  (hown:w1.ownsRow base e d.sz v1 (xs.length+1) (inner++cs)) (hg:W.grownBy w1 v.ownBlock) (hat:v1.ownBlock=v.ownBlock\/∃ b,v1.ownBlock=some b/\W.heap.size<=b):d.R e w1 base ok v1 (xs++[p]):=by
 have hne:∀ k,some k≠v.ownBlock->k<W.heap.size->some k≠v1.ownBlock:=by
  intro k hk hlt;rcases hat with hat | ⟨b,hb,hle⟩
  ·rw [hat];exact hk
  rw [hb];intro he;injection he with he;omega
 have step:∀ {q:α} {c:List Value} {o:Nat->Prop},d.M W base o q c->(∀ k,o k->ok k/\some k≠v.ownBlock)->d.M w1 base (fun k=>ok k/\some k≠v1.ownBlock) q c:=by
  intro q c o hq ho;have h1:=d.M_move (w1:=w1) (fun k hk=>hg.block k hk.2.2.1 (ho k hk.1).2) (d.M_bound hq);exact d.M_mono (fun k hk=>⟨(ho k hk.1).1,hne k (ho k hk.1).2 hk.2.2.1⟩) h1
 refine⟨fun k hk=>?_,inner++cs,by rw [MA,MN];exact hown,?_⟩
 rotate_left
 ·exact (hr.imp_ (fun _ _ hq=>step hq (fun _ hk=>hk))).snoc (step hp hokp) (d.K_len (d.K_of_M hp))
 rcases hat with hat | ⟨b,hb,hle⟩
 ·exact h0 k (hat ▸ hk)
 rw [hb] at hk;injection hk with hk;exact hfresh k (by omega)
section
variable {P:Program} {ops:Array Oper} {rest:List Oper} {o:Oper} {a:Act} {Q:Exit->Act->World->Prop} {α:Type}
theorem ml (d:Kd α){w0 W:World}(base:Nat)(hgd:o.guard=none)(s x:Operand)(t e:TypeId)(z:Value)(bytes:Nat)
  (ho:o.op=.call { callee:=.builtin .append,args:=#[s,x],argTypes:=#[t,t] })
  (ht:P.underlying t=some (.slice e)) (hinfo:(P.info? e).map (fun i=>(i.zero,i.size,i.bytes))=some (some z,d.sz,bytes)) (hz:z.cells.size=d.sz) (hs0:0<d.sz) (hb0:0<bytes)
  (v:Value) (xs:List α) (p:α) (cs:List Value) (ok okp:Nat->Prop) (hs:a.eval s=v) (hx:a.eval x=.slice (some ⟨W.heap.size,0,none⟩) 1 1) (hp:d.M W base okp p cs) (hokp:∀ k,okp k->ok k/\some k≠v.ownBlock) (hfresh:∀ k,W.heap.size<=k->ok k)
  (HO:d.R e W base ok v xs) (HB:Below base w0 W) (hbase:base<=W.heap.size) (hl:(xs.length+1)*bytes<=140737488355328)
  (h:∀ v1 w1,d.R e w1 base ok v1 (xs++[p])->Below base w0 w1->W.grownBy w1 v.ownBlock->(v1.ownBlock=v.ownBlock\/∃ b,v1.ownBlock=some b/\W.heap.size<=b)->wpList P ops Q rest (a.put o.dst v1) w1) :
  wpList P ops Q (o :: rest) a (W.alloc (.cells cs.toArray e)):=by
 obtain⟨h0,inner,hown,hr⟩:=HO;refine mV base hgd s x t e z d.sz bytes ho ht hinfo hz hs0 hb0 v xs.length inner cs hs hx (d.K_len (d.K_of_M hp)) (d.K_one (d.K_of_M hp)) hown HB hbase hl ?_;intro v1 w1 hown1 hb1 hg1 hat1;exact h v1 w1 (Bs h0 hr hp hokp hfresh hown1 hg1 hat1) hb1 hg1 hat1
end
theorem Bt {α:Type}{enc:α->Value}(xs:List α):ar (fun (x:α) (cs:List Value)=>cs=[enc x]) 1 xs (eJ enc xs):=by
 refine⟨by simp [eJ],fun j p hj=>?_⟩;obtain⟨hl,hp⟩:=List.getElem?_eq_some_iff.1 hj;have hl':j<(eJ enc xs).length:=by rw [uY];exact hl
 rw [Nat.mul_one,List.drop_eq_getElem_cons hl'];simp [eJ,hp]
theorem ov {α:Type}{enc:α->Value}{h1:∀ x,(enc x).oneCell'=true}{e:Nat}{w:World}{base:Nat}{ok:Nat->Prop}{v:Value}{xs:List α}(ho:w.ownsRow base e 1 v xs.length (eJ enc xs))(hok:∀ k,v.ownBlock=some k->ok k):(fA enc h1).R e w base ok v xs:=⟨hok,eJ enc xs,ho,Bt xs⟩
theorem vm {α:Type}{enc:α->Value}{h1:∀ x,(enc x).oneCell'=true}{e:Nat}{w:World}{base:Nat}{ok:Nat->Prop}{v:Value}{xs:List α}(h:(fA enc h1).R e w base ok v xs):w.ownsRow base e 1 v xs.length (eJ enc xs):=by
 obtain⟨_,inner,ho,hr⟩:=h;have:inner=eJ enc xs:=by
  apply MO;intro j;rcases MI j xs.length with hj | hj
  rotate_left
  ·have h3:inner.length=xs.length:=by have:=hr.1;simp [fA] at this;omega
   rw [MJ (by omega),MJ (by rw [uY];omega)]
  have h2:=hr.2 j _ (Mw hj);have hl:j<inner.length:=by have:=hr.1;simp [fA] at this;omega
  have h3:(inner.drop (j*1)).take 1=[enc xs[j]]:=h2;rw [Nat.mul_one,List.drop_eq_getElem_cons hl] at h3;have h4:inner[j]=enc xs[j]:=by
   have h5:=congrArg List.head? h3;rw [List.take_succ_cons] at h5;exact Option.some.inj h5
  rw [Mw hl,h4];simp [eJ,Mw hj]
 rw [<- this];exact ho
theorem sE {α:Type}{enc:α->Value}{d:α}{h1:∀ x,(enc x).oneCell'=true}{w:World}{A:Option Addr}{n:Nat}{xs:List α}(h:dp enc d w A n xs):(fA enc h1).C w A n xs:=by
 refine⟨h.1,h.2.1,fun hn=>?_⟩;obtain⟨ad,e,hc⟩:=h.2.2 hn;refine⟨ad,e,fun j p hj=>⟨[enc p],rfl,rfl,fun i u hu=>?_⟩⟩;obtain⟨hl,hp⟩:=List.getElem?_eq_some_iff.1 hj;have h2:=hc j (by have:=h.1;omega)
 rw [My,hj] at h2;cases i with
 | zero=>
  have:enc p=u:=by simpa using hu
  subst this;simpa [fA] using h2
 | succ i=>simp at hu
theorem mq {α:Type}{enc:α->Value}{d:α}{h1:∀ x,(enc x).oneCell'=true}{w:World}{A:Option Addr}{n:Nat}{xs:List α}(h:(fA enc h1).C w A n xs):dp enc d w A n xs:=by
 refine⟨h.1,h.2.1,fun hn=>?_⟩;obtain⟨ad,e,hc⟩:=h.2.2 hn;refine⟨ad,e,fun j hj=>?_⟩;have hl:j<xs.length:=by have:=h.1;omega
 obtain⟨c,_,hK,hcell⟩:=hc j _ (Mw hl);have hK':c=[enc xs[j]]:=hK;subst hK';have:=hcell 0 _ rfl;simpa [fA,My,Mw hl] using this
end Kd
namespace Kd
theorem ow {α:Type}{d:Kd α}{e base:Nat}{ok:Nat->Prop}{w:World}{v:Value}{xs:List α}(h:d.R e w base ok v xs):(slice e d).M w base ok xs [v]:=⟨v,rfl,h⟩
end Kd
namespace Kd
section
variable {α β:Type} {d:Kd α} {d':Kd β} {e e':Nat} {w w1 W:World} {base b b':Nat} {ok ok' okv oku:Nat->Prop} {v u:Value} {xs:List α} {ys:List β}
theorem cG (h:d.R e w base ok v xs):d.R e w.drew base ok v xs:=eC h (jM (Below.refl _ _))
theorem Bu (h:d.R e w base ok v xs)(m:Nat):d.R e (w.drewN m) base ok v xs:=eC h (au (Below.refl _ _) m)
theorem vn (d:Kd α)(w:World):d.C w none ([]:List α).length []:=⟨rfl,by simp,fun h=>absurd h (Nat.lt_irrefl 0)⟩
theorem fi {A:Option Addr}{n c:Nat}(h:d.R e w base ok (.slice A n c) xs):n=xs.length/\n<=c/\d.C w A xs.length xs:=by
 obtain⟨A',c',he,hl,hr⟩:=kB h;injection he with h1 h2 h3;subst h1;exact⟨h2,by omega,hr⟩
theorem mZ (h:d.R e w base ok v xs):∀ k,v.ownBlock=some k->k<w.heap.size:=by
 obtain⟨inner,ho⟩:=ou h;exact uU ho
theorem vp (h:d.R e w base ok v xs):∀ k,v.ownBlock=some k->base<=k:=by
 obtain⟨inner,ho⟩:=ou h;exact cF ho
theorem mr (h:d.R e w base ok v xs)(hp:0<xs.length):∃ g cap,v=.slice (some ⟨g,0,none⟩) xs.length cap/\base<=g/\g<w.heap.size/\∃ cells,w.heap[g]? = some (.cells cells e (0,0)):=by
 obtain⟨inner,ho⟩:=ou h;obtain⟨g,cap,he,hb,hl⟩:=ho.form hp;obtain⟨cells,hc⟩:=pN ho g (by rw [he];simp [Value.ownBlock])
 exact⟨g,cap,he,hb,hl,cells,hc⟩
end
section
variable {w W:World} {A:Option Addr} {n:Nat}
theorem m4 {k:IntKind}{xs:List Int}(h:(Kd.int k).C w A n xs)(i:Int)(h0:0<=i)(h1:i<n):∃ ad,A=some ad/\w.cell? (ad.add i.toNat)=some (.int k (rd xs i)) :=
 dp.at_ (mq (enc:=Value.int k) (d:=(0:Int)) (h1:=fun _=>rfl) h) i h0 h1
variable {α:Type} {enc:α->Value} {h1:∀ x,(enc x).oneCell'=true} {e base g cap:Nat} {ok:Nat->Prop} {xs:List α}
theorem Bv (d:α)(h:(fA enc h1).R e W base ok (.slice (some ⟨g,0,none⟩) xs.length cap) xs)(i:Int)(h0:0<=i)(hi:i<xs.length):W.cell? ⟨g,i.toNat,none⟩=some (enc (oo d xs i))/\W.frozen? ⟨g,i.toNat,none⟩=false:=Bm (vm h) i h0 hi
theorem Bw (h:(fA enc h1).R e W base ok (.slice (some ⟨g,0,none⟩) xs.length cap) xs)(i:Int)(x:α):(fA enc h1).R e (W.setCell ⟨g,i.toNat,none⟩ (enc x)) base ok (.slice (some ⟨g,0,none⟩) xs.length cap) (xs.set i.toNat x)/\W.grownBy (W.setCell ⟨g,i.toNat,none⟩ (enc x)) (some g):=by
 obtain⟨ho,hg⟩:=Bn (vm h) i x;exact⟨ov (by rw [MG];exact ho) h.1,hg⟩
end
section
variable {P:Program} {ops:Array Oper} {rest:List Oper} {o:Oper} {a:Act} {Q:Exit->Act->World->Prop}
theorem vq {W w1:World}{v:Value}(hgd:o.guard=none)(hrun:(execOp a.eval o).run P W=.ok (.value v) w1)(h:wpList P ops Q rest (a.put o.dst v) w1):wpList P ops Q (o :: rest) a W:=by
 refine wpList_plain hgd fun K hK=>?_
 unfold Oper.wp;rw [hrun];exact hK _ _ h
variable {α:Type}
theorem vw (d:Kd α){w0 W:World}(base e:Nat)(hgd:o.guard=none){N:Tmp}(_hd:o.dst=some N){xs:List α}{inner:List Value}{ok okp:Nat->Prop}
  (hrun:(execOp a.eval o).run P W=.ok (.value (.slice (some ⟨W.heap.size,0,none⟩) xs.length xs.length)) (W.alloc (.cells inner.toArray e)))
  (hrep:ar (d.M W base okp) d.sz xs inner) (hok:∀ k,okp k->ok k) (hfresh:ok W.heap.size) (HB:Below base w0 W) (hbase:base<=W.heap.size) (hm:xs.length<=9223372036854775807)
  (h:∀ v1 w1,d.R e w1 base ok v1 xs->Below base w0 w1->W.grownBy w1 none->(∃ b,v1.ownBlock=some b/\W.heap.size<=b)->wpList P ops Q rest (a.put o.dst v1) w1):wpList P ops Q (o :: rest) a W:=by
 refine vq hgd hrun (h _ _ ⟨fun k hk=>?_,inner,?_,?_⟩ (HB.alloc hbase _) (World.grownBy_alloc W _ none) ⟨W.heap.size,by simp [Value.ownBlock],Nat.le_refl _⟩)
 ·have:W.heap.size=k:=by simpa [Value.ownBlock] using hk
  subst this;exact hfresh
 ·have h2:=World.ownsRow_lit (base:=base) (e:=e) (size:=d.sz) W inner.toArray xs.length hbase (by simpa [maxLen] using hm) (by simpa using hrep.1);simpa using h2
 refine hrep.imp_ (fun p c hp=>d.M_mono (fun k hk=>⟨hok k hk.1,fun he=>?_⟩) (Br (d.M_bound hp) (ai (Below.refl _ _) _)));have h3:k=W.heap.size:=by simpa [Value.ownBlock] using he
 have:=hk.2.2.1;omega
theorem Bx {α:Type}{R:α->List Value->Prop}{z:Value}{size:Nat}{z0:α}(hz:z.cells.size=size)(hs:0<size)(h0:R z0 z.cells.toList)(m:Nat):ar R size (List.replicate m z0) (madeCells z.cells (m*size)).toList:=by
 refine⟨by simp [size_madeCells],fun j p hj=>?_⟩;obtain⟨hjl,hp⟩:=List.getElem?_eq_some_iff.1 hj;have hjm:j<m:=by simpa using hjl
 have hp':z0=p:=by simpa using hp
 subst hp';have hle:j*size+size<=m*size:=by rw [<- Mz];exact MB _ hjm
 have:((madeCells z.cells (m*size)).toList.drop (j*size)).take size=z.cells.toList:=by
  apply List.ext_getElem
  ·simp [size_madeCells,hz];omega
  intro i h1 h2;have hi:i<size:=by rw [MQ,hz] at h2;exact h2
  have hmod:(j*size+i)%size=i:=by
   rw [Nat.mul_comm,Nat.mul_add_mod];exact Nat.mod_eq_of_lt hi
  simp [madeCells,hz,hmod];rw [getElem!_pos z.cells i (by omega)]
 rw [this];exact h0
theorem pO (d:Kd α){w0 W:World}(base e:Nat)(hgd:o.guard=none){N:Tmp}(hd:o.dst=some N)(t:TypeId)(x y:Operand)(ho:o.op=.makeSlice t x y)(n:Int)(hx:a.eval x=.int .i64 n)(hy:a.eval y=.int .i64 n)
  (ht:P.underlying t=some (.slice e)) (z:Value) (bytes:Nat) (hinfo:(P.info? e).map (fun i=>(i.zero,i.size,i.bytes))=some (some z,d.sz,bytes)) (hz:z.cells.size=d.sz) (hs0:0<d.sz) (hb0:0<bytes)
  (z0:α) {ok okp:Nat->Prop} (hzero:d.M W base okp z0 z.cells.toList) (hok:∀ k,okp k->ok k) (hfresh:ok W.heap.size) (h0:0<=n) (hl:n.toNat*bytes<=281474976710656) (HB:Below base w0 W) (hbase:base<=W.heap.size)
  (h:∀ v1 w1,d.R e w1 base ok v1 (List.replicate n.toNat z0)->Below base w0 w1->W.grownBy w1 none->(∃ b,v1.ownBlock=some b/\W.heap.size<=b)->wpList P ops Q rest (a.put o.dst v1) w1):wpList P ops Q (o :: rest) a W:=by
 obtain⟨m,rfl⟩:=Int.eq_ofNat_of_zero_le h0;simp only [Int.toNat_natCast] at hl h;obtain⟨i0,hi,hzz⟩:=Option.map_eq_some_iff.1 hinfo;simp only [Prod.mk.injEq] at hzz;obtain⟨hz0,hz1,hz2⟩:=hzz;have hm:m<=281474976710656:=MH (MM _ hb0) hl;have hr:=run_make (P:=P) W t e i0 z ht hi hz0 .i64 .i64 (m:Int) (m:Int) (by omega) (by omega)
  (by
   have h3:((i0.bytes*m:Nat):Int)<=281474976710656:=by rw [hz2,Nat.mul_comm];omega
   rwa [Int.natCast_mul] at h3) (by omega)
 simp only [Int.toNat_natCast] at hr;rw [hz1] at hr;refine vw d base e hgd hd (xs:=List.replicate m z0) (inner:=(madeCells z.cells (m*d.sz)).toList) (okp:=okp) (ok:=ok) ?_ (Bx hz hs0 hzero m) hok hfresh HB hbase (by simp;omega) h
 simp [execOp,ho,hx,hy,hr]
end
end Kd
section
variable {P:Program}
theorem sF (t e:TypeId)(kh:IntKind){i:TypeInfo}(ht:P.underlying t=some (.slice e))(hi:P.info? e=some i)(A:Option Addr)(n c:Nat)(j:Int)(h0:0<=j)(hm:j<=n)(hc:n<=c) :
  ∀ W:World,(Instr.slice t (.slice A n c) none (some (.int kh j)) none).run P W=.ok (.slice A j.toNat c) W:=by
 intro W;have hel:P.elem t=e:=by simp [Program.elem,ht]
 have hu:P.underlying t=some (.slice (P.elem t)):=by rw [hel];exact ht
 have ha:(A.map fun x=>x.add 0)=A:=by cases A<;>simp [Addr.add]
 rw [run_slice_h W t A n c hu kh j h0 (by omega),hel];simp [sizeOf,typeInfo,hi,sliced,Result.andThen,ha]
end
def QRow (w:World)(base:Nat)(e:TypeId)(size:Nat)(v:Value)(n:Nat)(xs:List Value):Prop :=
 xs.length=n*size/\
 ((n=0/\∃ A,v=.slice A 0 0/\∀ a,A=some a->base<=a.block/\∃ cur,w.heap[a.block]? = some (.cells cur e (0,0)))\/
  ∃ g off cap cur,v=.slice (some ⟨g,off*size,none⟩) n cap/\base<=g/\w.heap[g]? = some (.cells cur e (0,0))/\n<=cap/\off+cap<=maxLen/\cur.size=(off+cap)*size/\(cur.toList.drop (off*size)).take (n*size)=xs)
section
variable {w w1:World} {base n size:Nat} {e:TypeId} {v:Value} {xs:List Value}
theorem vz (g o j:Nat):(⟨g,o,none⟩:Addr).add j=⟨g,o+j,none⟩:=by unfold Addr.add;split<;>simp_all
theorem vA {g:Nat}:∀ (vs:List Value) (o:Nat) {w:World} (k:Nat),k≠g->(w.setCells g o vs).heap[k]? = w.heap[k]?
 | [],_,_,_,_=>rfl
 | v :: r,o,w,k,hk=>by
  rw [World.setCells,vA r (o+1) k hk];exact Below.heap_setCell w ⟨g,o,none⟩ v k hk
theorem vB (g:Nat):∀ (vs:List Value) (o:Nat) (w:World),(w.setCells g o vs).os=w.os/\(w.setCells g o vs).tape=w.tape/\(w.setCells g o vs).output=w.output/\(w.setCells g o vs).heap.size=w.heap.size
 | [],_,_=>⟨rfl,rfl,rfl,rfl⟩
 | v :: r,o,w=>by
  obtain⟨h1,h2,h3,h4⟩:=vB g r (o+1) (w.setCell ⟨g,o,none⟩ v);rw [World.setCells];exact⟨h1,h2,h3,by rw [h4];simp [World.setCell]⟩
theorem vC {g:Nat}{e:TypeId}:∀ (vs:List Value) (o:Nat) (w:World) (cur:Array Value),w.heap[g]? = some (.cells cur e (0,0))->o+vs.length<=cur.size->
  ∃ cur',(w.setCells g o vs).heap[g]? = some (.cells cur' e (0,0))/\cur'.size=cur.size/\cur'.toList=cur.toList.take o++vs++cur.toList.drop (o+vs.length)
 | [],o,w,cur,h,_=>⟨cur,h,rfl,by simp⟩
 | v :: r,o,w,cur,h,hl=>by
  have h2:=bK h o v;simp only [List.length_cons] at hl;obtain⟨cur',h3,h4,h5⟩:=vC r (o+1) (w.setCell ⟨g,o,none⟩ v) _ h2 (by simp;omega)
  refine⟨cur',h3,by rw [h4];simp,?_⟩
  rw [h5,Array.toList_setIfInBounds];have ho:o<cur.toList.length:=by rw [MQ];omega
  rw [List.take_set,List.drop_set_of_lt (by omega)];simp only [List.length_cons];rw [show o+1+r.length=o+(r.length+1) by omega];congr 1;rw [List.take_succ_eq_append_getElem ho,List.set_append_right _ _ (by rw [MD];omega)]
  have ho':o<cur.size:=by omega
  simp [Nat.min_eq_left (Nat.le_of_lt ho')]
end
namespace Kd
def Q {α:Type}(d:Kd α)(e:Nat)(w:World)(base:Nat)(ok:Nat->Prop)(v:Value)(xs:List α):Prop :=
 (∀ k,v.ownBlock=some k->ok k)/\∃ inner,QRow w base e d.sz v xs.length inner/\ar (d.M w base (fun k=>ok k/\some k≠v.ownBlock)) d.sz xs inner
end Kd
namespace Kd
section
variable {α:Type} {d:Kd α} {e e':Nat} {w w1 W:World} {base:Nat} {ok:Nat->Prop} {u v:Value} {xs:List α}
theorem Bz (h:d.R e w base ok v xs):∀ k,v.ownBlock=some k->∃ cells,w.heap[k]? = some (.cells cells e (0,0)):=by
 obtain⟨inner,ho⟩:=ou h;exact fun k hk=>pN ho k hk
theorem vD (h:d.R e W base ok u xs)(hty:∀ k,v.ownBlock=some k->∃ cells,W.heap[k]? = some (.cells cells e' (0,0)))(ht:∀ q,q∈e :: d.E->q≠e')(hg:W.grownBy w1 v.ownBlock):d.R e w1 base ok u xs:=by
 refine eK (ot (mi h) (fun k hk=>hg.block k hk.2.2.1 (fun he=>?_))) (fun _ hk=>hk.1);obtain⟨_,_,_,q,hq,cells,hc⟩:=hk;obtain⟨cells',hc'⟩:=hty k he.symm;rw [hc] at hc';injection hc' with hc';injection hc' with _ hc';exact ht q hq hc'
theorem pP (h:d.R e W base ok u xs)(hty:∀ k,v.ownBlock=some k->∃ cells,W.heap[k]? = some (.cells cells e' (0,0)))(ht:∀ q,q∈e :: d.E->q≠e'):d.R e W base (fun k=>ok k/\some k≠v.ownBlock) u xs:=by
 refine eK (mi h) (fun k hk=>⟨hk.1,fun he=>?_⟩);obtain⟨_,_,_,q,hq,cells,hc⟩:=hk;obtain⟨cells',hc'⟩:=hty k he.symm;rw [hc] at hc';injection hc' with hc';injection hc' with _ hc';exact ht q hq hc'
theorem BA (hu:d.R e W base ok u xs)(hbase:∀ k,v.ownBlock=some k->W.heap.size<=k)(hb:Below W.heap.size W w1):d.R e w1 base (fun k=>ok k/\some k≠v.ownBlock) u xs :=
 eK (ot (mi hu) (fun k hk=>hb.block k hk.2.2.1)) (fun k hk=>⟨hk.1,fun he=>by have:=hbase k he.symm;have:=hk.2.2.1;omega⟩)
end
end Kd
theorem ox {α:Type}(a seg:List α)(o:Nat)(h:o+seg.length<=a.length)(q:Nat) :
  (a.take o++seg++a.drop (o+seg.length))[q]? = if q<o then a[q]? else if q<o+seg.length then seg[q-o]? else a[q]?:=by
 have hl:(a.take o).length=o:=by rw [MD];omega
 rw [List.append_assoc];by_cases h1:q<o
 ·rw [if_pos h1,MP (by omega),MC,if_pos h1]
 rw [if_neg h1,List.getElem?_append_right (by omega),hl];by_cases h2:q<o+seg.length
 ·rw [if_pos h2,MP (by omega)]
 rw [if_neg h2,List.getElem?_append_right (by omega),MF];congr 1;omega
namespace Kd
section
variable {α:Type} {d:Kd α} {e base g n cap:Nat} {ok okp:Nat->Prop} {W:World} {xs:List α}
theorem pQ (h:d.R e W base ok (.slice (some ⟨g,0,none⟩) n cap) xs)(z:α)(i:Int)(h0:0<=i)(h1:i<n) :
  ∃ c,c.length=d.sz/\d.M W base (fun k=>ok k/\k≠g) (xs.getD i.toNat z) c/\(∀ j u,c[j]? = some u->W.cell? ⟨g,i.toNat*d.sz+j,none⟩=some u)/\∀ j,W.frozen? ⟨g,i.toNat*d.sz+j,none⟩=false:=by
 obtain⟨hn,hnc,hC⟩:=fi h;obtain⟨_,inner,ho,hr⟩:=h;have hil:i.toNat<xs.length:=by omega
 have hseg:i.toNat*d.sz+d.sz<=inner.length:=by rw [hr.1,<- Mz];exact MB _ hil
 have hM:=hr.2 i.toNat _ (Mw hil);refine⟨(inner.drop (i.toNat*d.sz)).take d.sz,by rw [MD,ME];omega,?_,fun j u hu=>?_,fun j=>?_⟩
 ·rw [My,Mw hil];exact d.M_mono (fun k hk=>⟨hk.1,fun he=>hk.2 (by rw [he];simp [Value.ownBlock])⟩) hM
 rotate_left
 ·obtain⟨cells,hc⟩:=pN ho g (by simp [Value.ownBlock]);exact jO hc _
 rw [MC] at hu
 split at hu
 rotate_left
 ·cases hu
 rw [MF] at hu;have:=ho.cells (g:=g) (by simp [Value.ownBlock]) _ u hu
 rwa [iu] at this
theorem BB (h:d.R e W base ok (.slice (some ⟨g,0,none⟩) n cap) xs)(i:Int)(h0:0<=i)(h1:i<n){c seg:List Value}{j:Nat}(hcl:c.length=d.sz)(hcc:∀ j u,c[j]? = some u->W.cell? ⟨g,i.toNat*d.sz+j,none⟩=some u)
  (hj:j+seg.length<=d.sz) {x':α} (hM:d.M W base okp x' (c.take j++seg++c.drop (j+seg.length))) (hokp:∀ k,okp k->ok k/\k≠g) :
  d.R e (W.setCells g (i.toNat*d.sz+j) seg) base ok (.slice (some ⟨g,0,none⟩) n cap) (xs.set i.toNat x')/\W.grownBy (W.setCells g (i.toNat*d.sz+j) seg) (some g):=by
 obtain⟨hn,hnc,_⟩:=fi h;obtain⟨hok,inner,ho,hr⟩:=h;have hil:i.toNat<xs.length:=by omega
 have hseg:i.toNat*d.sz+d.sz<=inner.length:=by rw [hr.1,<- Mz];exact MB _ hil
 have hin:inner.length=n*d.sz:=by rw [hr.1,hn]
 obtain⟨ho1,ho2⟩:=ho;rcases ho2 with⟨hv,_⟩ | ⟨g',cap',cur,hv,hb,hh,hnc',hcm,hcs,ht⟩
 ·cases hv
 injection hv with ha _ hc;injection ha with ha;injection ha with hg;subst hg;subst hc;have hfit:i.toNat*d.sz+j+seg.length<=cur.size:=by
  have:n*d.sz<=cap*d.sz:=MB _ hnc;omega
 obtain⟨cur',h3,h4,h5⟩:=vC seg (i.toNat*d.sz+j) W cur hh hfit;obtain⟨s1,s2,s3,s4⟩:=vB g seg (i.toNat*d.sz+j) W;have hfar:∀ k,k≠g->(W.setCells g (i.toNat*d.sz+j) seg).heap[k]? = W.heap[k]?:=fun k hk=>vA seg _ k hk
 have hcin:∀ q,q<d.sz->c[q]? = inner[i.toNat*d.sz+q]?:=by
  intro q hq;have hq':q<c.length:=by omega
  have h6:=hcc q _ (Mw hq');rw [cell_of_row W g _ cur e (0,0) hh] at h6;rw [Mw hq',<- h6,<- ht,MC,if_pos (by rw [<- hn];omega),Array.getElem?_toList]
 refine⟨⟨hok,inner.take (i.toNat*d.sz+j)++seg++inner.drop (i.toNat*d.sz+j+seg.length),⟨?_,.inr ⟨g,cap,cur',by rw [MG,hn],hb,h3,by rw [MG,<- hn];exact hnc,hcm,by rw [h4,hcs],?_⟩⟩,?_⟩,
  ⟨s1,s2,s3,by rw [s4];exact Nat.le_refl _,fun k _ hk=>hfar k (fun he=>hk (by rw [he]))⟩⟩
 ·rw [MG];simp only [MA,MD,ME];rw [hr.1] at hseg ⊢;omega
 ·rw [MG,<- hn];apply MO;intro q;rw [MC,h5];rw [ox cur.toList seg (i.toNat*d.sz+j) (by rw [MQ];omega) q,ox inner seg (i.toNat*d.sz+j) (by omega) q]
  have hcur:∀ q,q<n*d.sz->cur.toList[q]? = inner[q]?:=by
   intro q hq;rw [<- ht,MC,if_pos (by rw [<- hn];exact hq)]
  by_cases hq:q<n*d.sz
  ·rw [if_pos hq,hcur q hq]
  rw [if_neg hq,if_neg (by omega),if_neg (by omega),MJ (by omega)]
 refine⟨?_,fun m p hm=>?_⟩
 ·rw [MG];simp only [MA,MD,ME];rw [hr.1] at hseg ⊢;omega
 have hml:m<xs.length:=by
  have:=(List.getElem?_eq_some_iff.1 hm).1
  rwa [MG] at this
 have hmfit:m*d.sz+d.sz<=inner.length:=by rw [hr.1,<- Mz];exact MB _ hml
 have hgo:some g=(Value.slice (some ⟨g,0,none⟩) n cap).ownBlock:=by simp [Value.ownBlock]
 by_cases hmi:m=i.toNat;rotate_left
 ·rw [List.getElem?_set_ne (by omega)] at hm;have hold:=hr.2 m p hm;have hcells:((inner.take (i.toNat*d.sz+j)++seg++inner.drop (i.toNat*d.sz+j+seg.length)).drop (m*d.sz)).take d.sz=(inner.drop (m*d.sz)).take d.sz:=by
   apply MO;intro q;rw [MC,MC,MF,MF,ox inner seg _ (by omega)];by_cases hq:q<d.sz;rotate_left
   ·rw [if_neg hq,if_neg hq]
   rw [if_pos hq,if_pos hq];rcases Nat.lt_or_gt_of_ne hmi with hlt | hgt
   ·have:m*d.sz+d.sz<=i.toNat*d.sz:=by rw [<- Mz];exact MB _ hlt
    rw [if_pos (by omega)]
   have:i.toNat*d.sz+d.sz<=m*d.sz:=by rw [<- Mz];exact MB _ hgt
   rw [if_neg (by omega),if_neg (by omega)]
  rw [hcells];refine d.M_move (fun k hk=>hfar k (fun he=>hk.2 (by rw [he];exact hgo))) hold
 subst hmi;rw [List.getElem?_set_self (by omega)] at hm;injection hm with hm;subst hm;have hcells:((inner.take (i.toNat*d.sz+j)++seg++inner.drop (i.toNat*d.sz+j+seg.length)).drop (i.toNat*d.sz)).take d.sz=c.take j++seg++c.drop (j+seg.length):=by
  apply MO;intro q;rw [MC,MF,ox inner seg _ (by omega),ox c seg j (by omega) q];by_cases hq:q<d.sz;rotate_left
  ·rw [if_neg hq,if_neg (by omega),if_neg (by omega),MJ (by omega)]
  rw [if_pos hq,hcin q hq];by_cases hq1:q<j
  ·rw [if_pos (by omega),if_pos hq1]
  rw [if_neg (by omega),if_neg hq1];by_cases hq2:q<j+seg.length;rotate_left
  ·rw [if_neg (by omega),if_neg hq2]
  rw [if_pos (by omega),if_pos hq2];congr 1;omega
 rw [hcells];refine d.M_mono (fun k hk=>?_) (d.M_move (w1:=W.setCells g (i.toNat*d.sz+j) seg) (fun k hk=>hfar k (hokp k hk).2) hM);exact⟨(hokp k hk).1,fun he=>(hokp k hk).2 (by rw [<- hgo] at he;injection he)⟩
end
end Kd
namespace Kd
def vE {α:Type}(d:Kd α)(w0:World):Kd α where
 sz:=d.sz
 E:=[]
 K:=fun _ x cs=>d.K w0 x cs
 M:=fun _ _ _ x cs=>d.K w0 x cs
 K_len:=d.K_len
 K_one:=d.K_one
 K_below:=fun _ h=>h
 K_of_M:=fun h=>h
 M_mono:=fun _ h=>h
 M_bound:=fun h=>h
 M_move:=fun _ h=>h
 M_lower:=fun _ h=>h
end Kd
theorem eL {w W:World}(h:Below w.heap.size w W):w.heap.size<=W.heap.size:=h.size
theorem bo {w W w2:World}(h:Below w.heap.size w W)(k:Below W.heap.size W w2):Below w.heap.size w w2:=sv h h.size k
theorem cA.nil (W:World)(k:IntKind):cA W k none ([]:List Int).length []:=⟨rfl,by simp,fun h=>absurd h (Nat.lt_irrefl 0)⟩
theorem cA.drewN {W:World}{k:IntKind}{A:Option Addr}{n:Nat}{xs:List Int}(h:cA W k A n xs)(m:Nat):cA (W.drewN m) k A n xs:=h
theorem gJ {w W:World}{g j:Nat}{v:Value}(h:Below w.heap.size w W)(hg:w.heap.size<=g):Below w.heap.size w (W.setCell ⟨g,j,none⟩ v):=h.setCell hg _
theorem vF {w W:World}{g:Nat}(h:gj w W g none){a:Addr}{v:Value}(hc:w.cell? a=some v)(hne:a.block≠g):W.cell? a=some v:=by
 have:=h.2 a.block (World.block_lt_of_cell? w a hc) hne (by simp);simpa [World.cell?,this] using hc
theorem vG (a:Addr)(i:Nat):(a.add i).block=a.block:=by unfold Addr.add;split<;>rfl
theorem dp.nil {α:Type}(enc:α->Value)(d:α)(W:World):dp enc d W none ([]:List α).length []:=⟨rfl,by simp,fun h=>absurd h (Nat.lt_irrefl 0)⟩
theorem dp.drewN {α:Type}{enc:α->Value}{d:α}{W:World}{A:Option Addr}{n:Nat}{xs:List α}(h:dp enc d W A n xs)(m:Nat):dp enc d (W.drewN m) A n xs:=h
theorem cA.keep {w W:World}{k:IntKind}{A:Option Addr}{n g:Nat}{xs:List Int}(h:cA w k A n xs)(hk:gj w W g none)(hf:∀ ad,A=some ad->0<n->ad.block≠g):cA W k A n xs :=
 ⟨h.1,h.2.1,fun hn=>by
  obtain⟨ad,e,hc⟩:=h.2.2 hn;exact⟨ad,e,fun j hj=>vF hk (hc j hj) (by rw [vG];exact hf ad e hn)⟩⟩
theorem dp.keep {α:Type}{enc:α->Value}{d:α}{w W:World}{A:Option Addr}{n g:Nat}{xs:List α}(h:dp enc d w A n xs)(hk:gj w W g none)(hf:∀ ad,A=some ad->0<n->ad.block≠g):dp enc d W A n xs :=
 ⟨h.1,h.2.1,fun hn=>by
  obtain⟨ad,e,hc⟩:=h.2.2 hn;exact⟨ad,e,fun j hj=>vF hk (hc j hj) (by rw [vG];exact hf ad e hn)⟩⟩
theorem pR {w:World}{g:Nat}{t:TypeId}{cs cs':Array Value}(h:w.heap[g]? = some (.cells cs t (0,0)))(i:Nat)(u:Value)(e:cs.setIfInBounds i u=cs'):(w.setCell ⟨g,i,none⟩ u).heap[g]? = some (.cells cs' t (0,0)):=e ▸ bK h i u
theorem eM {W:World}{base n c:Nat}{e:TypeId}{size g:Nat}{ad:Addr}{xs:List Value}(_:W.ownsRow base e size (.slice (some ad) n c) n xs)(hne:some g≠(Value.slice (some ad) n c).ownBlock):ad.block≠g:=by
 rintro rfl;exact hne (by simp [Value.ownBlock])
theorem sG {W:World}{base n c:Nat}{e:TypeId}{size:Nat}{A:Option Addr}{xs:List Value}(h:W.ownsRow base e size (.slice A n c) n xs):n<=c:=by
 rcases h.2 with⟨h1,h2⟩ | ⟨g,cap,cur,h1,_,_,h2,_⟩
 rotate_left
 ·injection h1 with _ _ h4;omega
 injection h1 with _ h3 h4;omega
theorem bC {base:Nat}{w W:World}(h:Below base w W):Below base w W.drew:=h.drew
theorem oy {W:World}{base n:Nat}{e:TypeId}{size:Nat}{v:Value}{xs:List Value}(h:W.ownsRow base e size v n xs):W.drew.ownsRow base e size v n xs:=h
namespace Kd
section
variable {α β:Type} {d:Kd α} {d':Kd β} {e e' base base' n:Nat} {ok ok':Nat->Prop} {w W w1 W1:World} {v u:Value} {xs:List α} {ys:List β} {A:Option Addr} {c:Nat}
theorem eM {ad:Addr}{g:Nat}(hne:some g≠(Value.slice (some ad) n c).ownBlock):ad.block≠g:=by
 rintro rfl;exact hne (by simp [Value.ownBlock])
end
end Kd
namespace Kd
section
variable {α:Type} {d:Kd α} {e base g:Nat} {ok:Nat->Prop} {w w1:World} {v:Value} {xs:List α} {o:Obj}
theorem vH (hb:w.heap[g]? = some o):∀ k,w.heap.size<=k->k≠g:=fun k hk=>by have:=ky hb;omega
end
end Kd
section
variable {P:Program} {ops:Array Oper} {rest:List Oper} {o:Oper} {a:Act} {Q:Exit->Act->World->Prop}
theorem pS {W:World}(hgd:o.guard=none){N:Tmp}(_hd:o.dst=some N){cs:Array Value}{t:TypeId}
  (hrun:(execOp a.eval o).run P W=.ok (.value (.pointer (some ⟨W.heap.size,0,none⟩))) (W.alloc (.cells cs t (0,0))))
  (h:∀ g,g=W.heap.size->∀ w1,w1.heap[g]? = some (.cells cs t (0,0))->Below W.heap.size W w1->wpList P ops Q rest (a.put o.dst (.pointer (some ⟨g,0,none⟩))) w1):wpList P ops Q (o :: rest) a W :=
 Kd.vq hgd hrun (h _ rfl _ (Bo W _) (ai (Below.refl _ _) _))
end
namespace Kd
section
variable {α:Type} {enc:α->Value} {h1:∀ x,(enc x).oneCell'=true} {e base g n cap:Nat} {ok:Nat->Prop} {W:World} {xs:List α}
theorem ms (d:α)(h:(fA enc h1).R e W base ok (.slice (some ⟨g,0,none⟩) n cap) xs)(i:Int)(h0:0<=i)(hi:i<n):W.cell? ⟨g,i.toNat,none⟩=some (enc (oo d xs i))/\W.frozen? ⟨g,i.toNat,none⟩=false:=by
 obtain⟨rfl,_⟩:=fi h;exact Bv d h i h0 hi
end
end Kd
section
variable {P:Program} {ops:Array Oper} {rest:List Oper} {o:Oper} {a:Act} {Q:Exit->Act->World->Prop}
theorem pT {W w1:World}(hgd:o.guard=none){t:TypeId}{p:Tmp}{v:Operand}(_ho:o.op=.store t (.tmp p) v)(hN:o.dst=none)
  (hrun:(execOp a.eval o).run P W=.ok .skip w1) (h:∀ w',w'=w1->wpList P ops Q rest a w'):wpList P ops Q (o :: rest) a W:=by
 refine wpList_plain hgd fun K hK=>?_
 unfold Oper.wp;rw [hrun];show K (a.put o.dst undef) w1;rw [hN];exact hK _ _ (h _ rfl)
end
namespace Kd
section
variable {α:Type} {enc:α->Value} {h1:∀ x,(enc x).oneCell'=true} {e base g n cap:Nat} {ok:Nat->Prop} {W:World} {xs:List α}
theorem oz (h:(fA enc h1).R e W base ok (.slice (some ⟨g,0,none⟩) n cap) xs)(i:Int)(x:α):(fA enc h1).R e (W.setCell ⟨g,i.toNat,none⟩ (enc x)) base ok (.slice (some ⟨g,0,none⟩) n cap) (xs.set i.toNat x)/\W.grownBy (W.setCell ⟨g,i.toNat,none⟩ (enc x)) (some g):=by
 obtain⟨rfl,_⟩:=fi h;exact Bw h i x
end
end Kd
section
variable {P:Program} {ops:Array Oper} {rest:List Oper} {o:Oper} {a:Act} {Q:Exit->Act->World->Prop} {W:World}
theorem de {N:Tmp}(_hN:o.dst=some N)(h:wpList P ops Q (o :: rest) a W):wpList P ops Q (o :: rest) a W:=h
theorem pU {t:TypeId}{p:Tmp}{v:Operand}(_ho:o.op=.store t (.tmp p) v)(h:wpList P ops Q (o :: rest) a W):wpList P ops Q (o :: rest) a W:=h
end
end Go.Proofs.YtgccjgpdjkhpdaaGreatW.PrintWords
namespace Go.Proofs.YtgccjgpdjkhpdaaGreatW.PrintLast
section
variable {P:Program} {ops:Array Oper} {Q:Exit->Act->World->Prop} {md:Region.Mode} {S:World->Prop} {ds:List Nat}
def Region.reachB (md:Region.Mode)(ops:Array Oper)(i:Nat):Nat->Nat->Bool
 | 0,_=>false
 | fuel+1,d=>match ops[d]? with
  | some o=>o.after.any fun e=>Region.binds md e && (e.on==i || Region.reachB md ops i fuel e.on)
  | none=>false
def Region.closedB (md:Region.Mode)(ops:Array Oper)(listed:Array Bool):Bool :=
 (MK ops.size).all fun j=>!listed.getD j false || match ops[j]? with
  | some o=>o.after.all fun e=>!Region.binds md e || listed.getD e.on false
  | none=>true
def Region.lastB (md:Region.Mode)(ops:Array Oper)(listed:Array Bool)(ds:List Nat)(i:Nat):Bool :=
 ds.all fun d=>listed.getD d true || Region.reachB md ops i ops.size d
def mt (md:Region.Mode)(ops:Array Oper)(listed:Array Bool):Prop :=
 ∀ j oj,ops[j]? = some oj->listed.getD j false=true->∀ e∈oj.after,Region.binds md e=true->listed.getD e.on false=true
theorem Region.closedB_spec {listed:Array Bool}(h:Region.closedB md ops listed=true):mt md ops listed:=by
 intro j oj hj hl e he hb;have hlt:j<ops.size:=(Array.getElem?_eq_some_iff.1 hj).1;have h1:=List.all_eq_true.1 h j (List.mem_range.2 hlt);simp only [hl,hj,Bool.not_true,Bool.false_or] at h1;have h2:=Array.all_eq_true_iff_forall_mem.1 h1 e he;simpa [hb] using h2
theorem mt.set {listed:Array Bool}{i:Nat}(h:mt md ops listed)(hi:i∈Region.ready md ops listed):mt md ops (listed.setIfInBounds i true):=by
 obtain⟨_,oi,hoi,hall⟩:=mem_ready.1 hi;intro j oj hj hl e he hb;by_cases hij:i=j;rotate_left
 ·rw [getD_set_ne false hij] at hl;exact getD_set_true (h j oj hj hl e he hb)
 subst hij;have:oj=oi:=Option.some.inj (hj.symm.trans hoi);subst this;exact getD_set_true (hall e he hb)
theorem Region.reach_listed {listed:Array Bool}{i:Nat}(hc:mt md ops listed):∀ (fuel d:Nat),Region.reachB md ops i fuel d=true->listed.getD d false=true->listed.getD i false=true
 | 0,_,h,_=>by simp [Region.reachB] at h
 | fuel+1,d,h,hl=>by
  unfold Region.reachB at h;cases ho:ops[d]? with
  | none=>rw [ho] at h;simp at h
  | some o=>
   rw [ho] at h;obtain⟨e,he,h1⟩:=Array.any_eq_true'.1 h;simp only [Mx,ML,beq_iff_eq] at h1;have hle:=hc d o ho hl e he h1.1;rcases h1.2 with h2 | h2
   ·rw [<- h2];exact hle
   exact Region.reach_listed hc fuel e.on h2 hle
theorem Region.reach_not_ready {listed:Array Bool}{i d fuel:Nat}(hc:mt md ops listed)(hr:Region.reachB md ops i fuel d=true)(hun:listed.getD i true=false):d∉Region.ready md ops listed:=by
 intro hd;obtain⟨_,o,ho,hall⟩:=mem_ready.1 hd;have hi:listed.getD i false=true:=by
  cases fuel with
  | zero=>simp [Region.reachB] at hr
  | succ n=>
   unfold Region.reachB at hr;rw [ho] at hr;obtain⟨e,he,h1⟩:=Array.any_eq_true'.1 hr;simp only [Mx,ML,beq_iff_eq] at h1;have hle:=hall e he h1.1;rcases h1.2 with h2 | h2
   ·rw [<- h2];exact hle
   exact Region.reach_listed hc n e.on h2 hle
 rcases MI i listed.size with h' | h'
 rotate_left
 ·simp [MR h'] at hun
 simp [h'] at hun hi;rw [hun] at hi;cases hi
def bu (P:Program)(md:Region.Mode)(ops:Array Oper)(Q:Exit->Act->World->Prop)(S:World->Prop)(ds:List Nat):Nat->Array Bool->Act->World->Prop
 | 0,listed,a,w=>Region.ready md ops listed=[]/\Q .normal a w
 | fuel+1,listed,a,w=>
  (Region.ready md ops listed=[]->Q .normal a w)/\
  ∀ i∈Region.ready md ops listed,wpOp P ops Q i (fun a' w'=>(i∉ds->S w->S w')/\bu P md ops Q S ds fuel (listed.setIfInBounds i true) a' w') a w
theorem vI:∀ (fuel:Nat) (listed:Array Bool) (a:Act) (w:World),bu P md ops Q S ds fuel listed a w->wpAny P md ops Q fuel listed a w
 | 0,_,_,_,h=>h
 | fuel+1,_,_,_,h=>⟨h.1,fun i hi=>wpOp_mono (fun a' w' h'=>vI fuel _ a' w' h'.2) (h.2 i hi)⟩
theorem BC {i:Nat}{oi:Oper}{v:Value}(hi:ops[i]? = some oi)(hsel:∀ (j:Nat) (o:Oper) cs b,ops[j]? = some o->o.op≠.select cs b)
  (hQ:∀ c a w,Q (.panic c) (a.put oi.dst v) w->Q (.panic c) a w) (n:Nat) :
  ∀ (fuel:Nat) (listed:Array Bool) (a:Act) (w:World),
   (∀ j oj,ops[j]? = some oj->j≠i->listed.getD j true=false->(∀ e∈oj.after,Region.binds md e=true->e.on≠i)->oi.apart ops oj=true)->
   mt md ops listed->(∀ d∈ds,listed.getD d true=false->Region.reachB md ops i n d=true)->
   i∈Region.ready md ops listed->YieldsIf P ops S oi v a->S w->
   bu P md ops Q S ds fuel (listed.setIfInBounds i true) (a.put oi.dst v) w->bu P md ops Q S ds (fuel+1) listed a w:=by
 intro fuel
 induction fuel with
 | zero=>
  intro listed a w _ _ _ hr hy hS H;refine⟨fun h=>(by rw [h] at hr;cases hr),fun j hj=>?_⟩
  by_cases hji:j=i
  ·subst hji;exact hy.wpOp hi hS ⟨fun _ h=>h,H⟩
  have:=ready_mono hj hji;rw [H.1] at this;cases this
 | succ fuel ih=>
  intro listed a w hfree hc hd hr hy hS H;refine⟨fun h=>(by rw [h] at hr;cases hr),fun j hj=>?_⟩
  by_cases hji:j=i
  ·subst hji;exact hy.wpOp hi hS ⟨fun _ h=>h,H⟩
  have h1:=H.2 j (ready_mono hj hji);obtain⟨hjun,oj,hoj,hall⟩:=mem_ready.1 hj;have hiun:=(mem_ready.1 hr).1;have hnot:∀ e∈oj.after,Region.binds md e=true->e.on≠i:=fun e he hb heq=>by
   have h1:=hall e he hb;rw [heq] at h1;rcases MI i listed.size with h' | h'
   ·simp [h'] at hiun h1;rw [hiun] at h1;cases h1
   simp [MR h'] at h1
  have hjd:j∉ds:=fun hm=>Region.reach_not_ready hc (hd j hm hjun) hiun hj
  have h2:=wpOp_putIf hoj (hfree j oj hoj hji hjun hnot) (fun cs b=>hsel i oi cs b hi) (fun cs b=>hsel j oj cs b hoj) hQ hy h1;have hfree':∀ k ok,ops[k]? = some ok->k≠i->(listed.setIfInBounds j true).getD k true=false->
    (∀ e∈ok.after,Region.binds md e=true->e.on≠i)->oi.apart ops ok=true:=fun k ok hk hki hun hno=>by
   refine hfree k ok hk hki ?_ hno;by_cases hjk:j=k
   ·subst hjk;exact hjun
   rw [getD_set_ne true hjk] at hun;exact hun
  have hd':∀ d∈ds,(listed.setIfInBounds j true).getD d true=false->Region.reachB md ops i n d=true:=fun d hm hun=>by
   refine hd d hm ?_;by_cases hjk:j=d
   ·subst hjk;exact hjun
   rw [getD_set_ne true hjk] at hun;exact hun
  refine wpOp_mono (fun a' w' h3=>⟨h3.2.1,ih (listed.setIfInBounds j true) a' w' hfree' (hc.set hj) hd' (ready_mono hr (Ne.symm hji)) h3.1 (h3.2.1 hjd hS) ?_⟩) h2;rw [Array.setIfInBounds_comm _ _ hji];exact h3.2.2
theorem BD {i:Nat}{oi:Oper}{v:Value}(hi:ops[i]? = some oi)(hsel:∀ (j:Nat) (o:Oper) cs b,ops[j]? = some o->o.op≠.select cs b)
  (hQ:∀ c a w,Q (.panic c) (a.put oi.dst v) w->Q (.panic c) a w) :
  ∀ (fuel:Nat) (listed:Array Bool) (a:Act) (w:World),
   (∀ j oj,ops[j]? = some oj->j≠i->listed.getD j true=false->(∀ e∈oj.after,Region.binds md e=true->e.on≠i)->oi.apart ops oj=true)->
   i∈Region.ready md ops listed->Yields P ops oi v a->
   bu P md ops Q S ds fuel (listed.setIfInBounds i true) (a.put oi.dst v) w->bu P md ops Q S ds (fuel+1) listed a w:=by
 intro fuel
 induction fuel with
 | zero=>
  intro listed a w _ hr hy H;refine⟨fun h=>(by rw [h] at hr;cases hr),fun j hj=>?_⟩
  by_cases hji:j=i
  ·subst hji;exact (hy.yieldsIf (S:=fun _=>True)).wpOp hi trivial ⟨fun _ h=>h,H⟩
  have:=ready_mono hj hji;rw [H.1] at this;cases this
 | succ fuel ih=>
  intro listed a w hfree hr hy H;refine⟨fun h=>(by rw [h] at hr;cases hr),fun j hj=>?_⟩
  by_cases hji:j=i
  ·subst hji;exact (hy.yieldsIf (S:=fun _=>True)).wpOp hi trivial ⟨fun _ h=>h,H⟩
  have h1:=H.2 j (ready_mono hj hji);obtain⟨hjun,oj,hoj,hall⟩:=mem_ready.1 hj;have hiun:=(mem_ready.1 hr).1;have hnot:∀ e∈oj.after,Region.binds md e=true->e.on≠i:=fun e he hb heq=>by
   have h1:=hall e he hb;rw [heq] at h1;rcases MI i listed.size with h' | h'
   ·simp [h'] at hiun h1;rw [hiun] at h1;cases h1
   simp [MR h'] at h1
  have h2:=wpOp_put hoj (hfree j oj hoj hji hjun hnot) (fun cs b=>hsel i oi cs b hi) (fun cs b=>hsel j oj cs b hoj) hQ hy h1;have hfree':∀ k ok,ops[k]? = some ok->k≠i->(listed.setIfInBounds j true).getD k true=false->
    (∀ e∈ok.after,Region.binds md e=true->e.on≠i)->oi.apart ops ok=true:=fun k ok hk hki hun hno=>by
   refine hfree k ok hk hki ?_ hno;by_cases hjk:j=k
   ·subst hjk;exact hjun
   rw [getD_set_ne true hjk] at hun;exact hun
  refine wpOp_mono (fun a' w' h3=>⟨h3.2.1,ih (listed.setIfInBounds j true) a' w' hfree' (ready_mono hr (Ne.symm hji)) h3.1 ?_⟩) h2;rw [Array.setIfInBounds_comm _ _ hji];exact h3.2.2
theorem BE {i:Nat}{oi:Oper}{v:Value}{fuel:Nat}{listed:Array Bool}{a:Act}{w:World}(hi:ops[i]? = some oi)
  (hs:Region.noSelect ops=true) (hf:Region.free md ops listed i=true) (hr:(Region.ready md ops listed).contains i=true)
  (hc:Region.closedB md ops listed=true) (hl:Region.lastB md ops listed ds i=true)
  (hQ:∀ c a w,Q (.panic c) (a.put oi.dst v) w->Q (.panic c) a w) (hy:YieldsIf P ops S oi v a) (hS:S w)
  (h:bu P md ops Q S ds fuel (listed.setIfInBounds i true) (a.put oi.dst v) w):bu P md ops Q S ds (fuel+1) listed a w :=
 BC hi (Region.noSelect_spec hs) hQ ops.size fuel listed a w (Region.free_spec hi hf) (Region.closedB_spec hc)
  (fun d hm hun=>by have:=List.all_eq_true.1 hl d hm;rw [hun] at this;simpa using this) (by simpa using hr) hy hS h
theorem BF {rs:List Nat}{fuel:Nat}{listed:Array Bool}{a:Act}{w:World}(hr:Region.ready md ops listed=rs)(hne:rs≠[])
  (h:∀ i∈rs,wpOp P ops Q i (fun a' w'=>(i∉ds->S w->S w')/\bu P md ops Q S ds fuel (listed.setIfInBounds i true) a' w') a w):bu P md ops Q S ds (fuel+1) listed a w :=
 ⟨fun h0=>absurd (hr ▸ h0) hne,hr ▸ h⟩
theorem BG {listed:Array Bool}{a:Act}{w:World}(hr:Region.ready md ops listed=[])(h:Q .normal a w) :
  ∀ fuel,bu P md ops Q S ds fuel listed a w
 | 0=>⟨hr,h⟩
 | _+1=>⟨fun _=>h,by rw [hr];simp⟩
theorem BH {id:Nat}{a:Act}{w:World}(hm:P.follows .mixedOrders=true)
  (h:bu P .any ops Q S ds ops.size (Array.replicate ops.size false) a { w with drawn:=w.drawn+1 }):(Code.region id ops true).wp P Q a w :=
 wp_region_any hm (vI _ _ _ _ h)
end
section
variable {P:Program} {ops:Array Oper} {Q:Exit->Act->World->Prop} {md:Region.Mode} {S:World->Prop} {ds:List Nat}
def fj (P:Program)(md:Region.Mode)(ops:Array Oper)(Q:Exit->Act->World->Prop)(S:World->Prop)(ds:List Nat)(fuel:Nat)(listed:Array Bool)(a:Act)(w:World)(rs:List Nat):Prop :=
 ∀ i∈rs,wpOp P ops Q i (fun a' w'=>(i∉ds->S w->S w')/\bu P md ops Q S ds fuel (listed.setIfInBounds i true) a' w') a w
theorem fj.nil {fuel:Nat}{listed:Array Bool}{a:Act}{w:World}:fj P md ops Q S ds fuel listed a w []:=fun _ h=>by cases h
theorem fj.cons {fuel:Nat}{listed:Array Bool}{a:Act}{w:World}{i:Nat}{o:Oper}{rs:List Nat}(ho:ops[i]? = some o)(hd:i∉ds)
  (h:∀ K':Act->World->Prop,Shut (∀ a w,S w->(S w->bu P md ops Q S ds fuel (listed.setIfInBounds i true) a w)->K' a w)->if Region.wanted o (yielded ops a.tmps)=true then Oper.wp P o a w K' Q else K' (a.put o.dst undef) w)
  (hs:fj P md ops Q S ds fuel listed a w rs):fj P md ops Q S ds fuel listed a w (i :: rs):=fun j hj=>by
 rcases List.mem_cons.1 hj with rfl | hj
 ·exact wpOp_step ho (fun K' hK=>h K' (fun a w hS hW=>hK a w ⟨fun _ _=>hS,hW hS⟩))
 exact hs j hj
theorem fj.cons_last {fuel:Nat}{listed:Array Bool}{a:Act}{w:World}{i:Nat}{o:Oper}{rs:List Nat}(ho:ops[i]? = some o)(hd:i∈ds)
  (h:∀ K':Act->World->Prop,Shut (∀ a w,bu P md ops Q S ds fuel (listed.setIfInBounds i true) a w->K' a w)->if Region.wanted o (yielded ops a.tmps)=true then Oper.wp P o a w K' Q else K' (a.put o.dst undef) w)
  (hs:fj P md ops Q S ds fuel listed a w rs):fj P md ops Q S ds fuel listed a w (i :: rs):=fun j hj=>by
 rcases List.mem_cons.1 hj with rfl | hj
 ·exact wpOp_step ho (fun K' hK=>h K' (fun a w hW=>hK a w ⟨fun hn=>absurd hd hn,hW⟩))
 exact hs j hj
theorem sH {rs:List Nat}{fuel:Nat}{listed:Array Bool}{a:Act}{w:World}(hr:Region.ready md ops listed=rs)(hne:rs≠[])
  (h:fj P md ops Q S ds fuel listed a w rs):bu P md ops Q S ds (fuel+1) listed a w:=BF hr hne h
theorem ji {id n:Nat}{a:Act}{w:World}(l:Array Bool)(hm:P.follows .mixedOrders=true)(hn:ops.size=n)(hl:Array.replicate n false=l)(hS:S w.drew)
  (h:S w.drew->bu P .any ops Q S ds n l a w.drew):(Code.region id ops true).wp P Q a w:=by
 subst hn;subst hl;exact BH hm (h hS)
def oA (md:Region.Mode)(ops:Array Oper)(ds:List Nat)(l l':Array Bool)(i:Nat):Bool :=
 Region.noSelect ops && Region.free md ops l i && (Region.ready md ops l).contains i && Region.closedB md ops l && Region.lastB md ops l ds i && (l.setIfInBounds i true==l')
theorem take_ {i:Nat}{N:Option Tmp}{oi:Oper}{v:Value}{fuel:Nat}{l:Array Bool}{a:Act}{w:World}(l':Array Bool)(hi:ops[i]? = some oi)(hN:oi.dst=N)(hc:oA md ops ds l l' i=true)
  (hQ:∀ c a w,Q (.panic c) (a.put oi.dst v) w->Q (.panic c) a w) (hy:YieldsIf P ops S oi v a) (hS:S w) {a':Act} (ha:a.put N v=a')
  (h:bu P md ops Q S ds fuel l' a' w):bu P md ops Q S ds (fuel+1) l a w:=by
 subst ha;subst hN;simp only [oA,Mx,beq_iff_eq] at hc;obtain⟨⟨⟨⟨⟨h1,h2⟩,h3⟩,h4⟩,h5⟩,h6⟩:=hc;subst h6;exact BE hi h1 h2 h3 h4 h5 hQ hy hS h
def pV (md:Region.Mode)(ops:Array Oper)(l l':Array Bool)(i:Nat):Bool :=
 Region.noSelect ops && Region.free md ops l i && (Region.ready md ops l).contains i && (l.setIfInBounds i true==l')
theorem mu {i:Nat}{N:Option Tmp}{oi:Oper}{v:Value}{fuel:Nat}{l:Array Bool}{a:Act}{w:World}(l':Array Bool)(hi:ops[i]? = some oi)(hN:oi.dst=N)(hc:pV md ops l l' i=true)
  (hQ:∀ c a w,Q (.panic c) (a.put oi.dst v) w->Q (.panic c) a w) (hy:Yields P ops oi v a) {a':Act} (ha:a.put N v=a')
  (h:bu P md ops Q S ds fuel l' a' w):bu P md ops Q S ds (fuel+1) l a w:=by
 subst ha;subst hN;simp only [pV,Mx,beq_iff_eq] at hc;obtain⟨⟨⟨h1,h2⟩,h3⟩,h6⟩:=hc;subst h6;exact BD hi (Region.noSelect_spec h1) hQ fuel l a w (Region.free_spec hi h2) (by simpa using h3) hy h
def m5 (md:Region.Mode)(ops:Array Oper)(l l':Array Bool)(i:Nat):Bool:=(Region.ready md ops l==[i]) && (l.setIfInBounds i true==l')
theorem hJ {i:Nat}{N:Option Tmp}{oi:Oper}{fuel:Nat}{l:Array Bool}{a:Act}{w:World}(l':Array Bool)(hi:ops[i]? = some oi)(hN:oi.dst=N)(hc:m5 md ops l l' i=true)(hd:i∉ds)
  (h:∀ K:Act->World->Prop,Shut (∀ a' w',S w'->(S w'->bu P md ops Q S ds fuel l' a' w')->K a' w')->if Region.wanted oi (yielded ops a.tmps)=true then Oper.wp P oi a w K Q else K (a.put N undef) w) :
  bu P md ops Q S ds (fuel+1) l a w:=by
 subst hN;simp only [m5,Mx,beq_iff_eq] at hc;obtain⟨h1,h2⟩:=hc;subst h2;exact sH h1 (by simp) (fj.cons hi hd (fun K hK=>h K hK) fj.nil)
theorem jj {i:Nat}{N:Option Tmp}{oi:Oper}{fuel:Nat}{l:Array Bool}{a:Act}{w:World}(l':Array Bool)(hi:ops[i]? = some oi)(hN:oi.dst=N)(hc:m5 md ops l l' i=true)(hd:i∈ds)
  (h:∀ K:Act->World->Prop,Shut (∀ a' w',bu P md ops Q S ds fuel l' a' w'->K a' w')->if Region.wanted oi (yielded ops a.tmps)=true then Oper.wp P oi a w K Q else K (a.put N undef) w) :
  bu P md ops Q S ds (fuel+1) l a w:=by
 subst hN;simp only [m5,Mx,beq_iff_eq] at hc;obtain⟨h1,h2⟩:=hc;subst h2;exact sH h1 (by simp) (fj.cons_last hi hd (fun K hK=>h K hK) fj.nil)
theorem jk {l:Array Bool}{a:Act}{w:World}{n:Nat}(hr:(Region.ready md ops l==[])=true)(h:Q .normal a w):bu P md ops Q S ds n l a w:=BG (by simpa using hr) h n
def dC:Act->List (Tmp×Value)->Act
 | a,[]=>a
 | a,(n,v) :: r=>dC (a.put (some n) v) r
theorem BI {fuel:Nat}{l:Array Bool}{a a':Act}{w:World}(ha:a=a')(h:bu P md ops Q S ds fuel l a' w):bu P md ops Q S ds fuel l a w:=by
 subst ha;exact h
theorem BJ {oi:Oper}{N:Option Tmp}{a:Act}{w:World}{K:Act->World->Prop}(f:FuncId)(args:Array Value)(hw:Region.wanted oi (yielded ops a.tmps)=true)(hN:oi.dst=N)(hrun:(execOp a.eval oi).run P w=.ok (.enter f args) w)
  (h:Calls P f args w fun e w'=>∃ v,e=.returned v/\K (a.put N v) w'):if Region.wanted oi (yielded ops a.tmps)=true then Oper.wp P oi a w K Q else K (a.put N undef) w:=by
 rw [if_pos hw];subst hN;unfold Oper.wp;rw [hrun,Oper.upon_enter];refine h.mono fun e w'' hh=>?_
 obtain⟨v,rfl,hk⟩:=hh;exact hk
theorem vJ {f : FuncId} {fn : Func} (hf : P.funcs[f]? = some fn) (hname : (fn.name == "runtime.NumGoroutine") = false) (hb : fn.body.isSome = true) (args : Array Value) (w : World) : (callFunc f args).run P w = .ok (.enter f args) w := by
 have h1 : fn.name ≠ "runtime.NumGoroutine" := by simpa using hname
 obtain⟨c,hc⟩:=Option.isSome_iff_exists.1 hb;simp [callFunc,hf,h1,hc]
theorem ia {oi : Oper} {N : Option Tmp} {a : Act} {w : World} {K : Act → World → Prop} {f : FuncId} {fn : Func} {as : Array Operand} {ts : Array TypeId} (hf : P.funcs[f]? = some fn) (hname : (fn.name == "runtime.NumGoroutine") = false) (hb : fn.body.isSome = true) (args : Array Value)
  (hw:Region.wanted oi (yielded ops a.tmps)=true) (hN:oi.dst=N) (hop:oi.op=.call { callee:=.value (.func f),args:=as,argTypes:=ts }) (hargs:as.map a.eval=args)
  (h:Calls P f args w fun e w'=>∃ v,e=.returned v/\K (a.put N v) w'):if Region.wanted oi (yielded ops a.tmps)=true then Oper.wp P oi a w K Q else K (a.put N undef) w:=by
 refine BJ f args hw hN ?_ h;have he:=vJ hf hname hb args w;unfold execOp;simp [hop,resolve,Deferred.ofValue,invoke,Act.eval,hargs,he]
theorem be {rest : List Oper} {oi : Oper} {a : Act} {w : World} (N : Option Tmp) (hd : oi.dst = N) (hg : oi.guard = none) {f : FuncId} {fn : Func} {as : Array Operand} {ts : Array TypeId} (hf : P.funcs[f]? = some fn) (hname : (fn.name == "runtime.NumGoroutine") = false) (hb : fn.body.isSome = true) (args : Array Value)
  (hop:oi.op=.call { callee:=.value (.func f),args:=as,argTypes:=ts }) (hargs:as.map a.eval=args)
  (h:Calls P f args w fun e w'=>∃ v,e=.returned v/\wpList P ops Q rest (a.put N v) w'):wpList P ops Q (oi :: rest) a w:=by
 refine wpList_plain hg fun K hK=>?_
 have he:=vJ hf hname hb args w;have hrun:(execOp a.eval oi).run P w=.ok (.enter f args) w:=by
  unfold execOp;simp [hop,resolve,Deferred.ofValue,invoke,Act.eval,hargs,he]
 unfold Oper.wp;rw [hrun,Oper.upon_enter];refine h.mono fun e w'' hh=>?_
 obtain⟨v,rfl,hk⟩:=hh;subst hd;exact hK _ _ hk
theorem jl {oi:Oper}{a:Act}{w w1:World}{K:Act->World->Prop}(hw:Region.wanted oi (yielded ops a.tmps)=true)(hN:oi.dst=none)(hrun:(execOp a.eval oi).run P w=.ok .skip w1)
  (h:K a w1):if Region.wanted oi (yielded ops a.tmps)=true then Oper.wp P oi a w K Q else K (a.put none undef) w:=by
 rw [if_pos hw];unfold Oper.wp;rw [hrun];show K (a.put oi.dst undef) w1;rw [hN];exact h
theorem gK (n:Int):IntKind.i64.wrap n=Go.RowKit.wrap64 n:=by unfold Go.RowKit.wrap64;exact IntKind.wrap_i64 n
theorem kC (n:Int):IntKind.i32.wrap n=Go.RowKit.wrap32 n:=by unfold Go.RowKit.wrap32;exact IntKind.wrap_i32 n
end
end Go.Proofs.YtgccjgpdjkhpdaaGreatW.PrintLast
namespace Go.Proofs.YtgccjgpdjkhpdaaGreatW.PrintLast
open Go.Proofs.YtgccjgpdjkhpdaaGreatW.PrintWords (Aside0)
def m6 (md:Region.Mode)(o:Oper):List Nat:=(o.after.toList.filter (fun e=>Region.binds md e)).map (fun e=>e.on)
def sI (md:Region.Mode)(ops:Array Oper)(i:Nat)(oi:Oper):List Nat:=(MK ops.size).filter fun j=>!(j==i) && match ops[j]? with
 | some oj=>!(oj.after.any (fun e=>Region.binds md e && e.on==i) || oi.apart ops oj)
 | none=>false
def cH (md:Region.Mode)(ops:Array Oper):Bool×List (List Nat×List Nat):=(Region.noSelect ops,(MK ops.size).map fun i=>match ops[i]? with
 | some o=>(m6 md o,sI md ops i o)
 | none=>([],[]))
def lB (T:List (List Nat×List Nat))(l:List Bool)(i:Nat):Bool:=!l.getD i true && match T[i]? with
 | some r=>r.1.all (fun j=>l.getD j false)
 | none=>false
def oB (T:List (List Nat×List Nat))(l:List Bool):List Nat:=(MK T.length).filter (lB T l)
def oC (T:List (List Nat×List Nat))(l:List Bool)(i:Nat):Bool:=match T[i]? with
 | some r=>r.2.all (fun j=>l.getD j true)
 | none=>false
def pW (T:List (List Nat×List Nat))(l:List Bool):Bool:=(MK T.length).all fun j=>!l.getD j false || match T[j]? with
 | some r=>r.1.all (fun k=>l.getD k false)
 | none=>true
def m7 (T:List (List Nat×List Nat))(i:Nat):Nat->Nat->Bool
 | 0,_=>false
 | fuel+1,d=>match T[d]? with
  | some r=>r.1.any fun j=>j==i || m7 T i fuel j
  | none=>false
def pX (T:List (List Nat×List Nat))(l:List Bool)(ds:List Nat)(i:Nat):Bool:=ds.all fun d=>l.getD d true || m7 T i T.length d
section
variable {md:Region.Mode} {ops:Array Oper} {T:Bool×List (List Nat×List Nat)} {l l' li lj lk:Array Bool} {ds:List Nat} {i j k:Nat}
theorem gd (l:Array Bool)(j:Nat)(b:Bool):l.getD j b=l.toList.getD j b:=by simp [Array.getD_eq_getD_getElem?,My]
theorem vK (o:Oper)(p:Nat->Bool):o.after.all (fun e=>!Region.binds md e || p e.on)=(m6 md o).all p:=by
 unfold m6;rw [<- Array.all_toList]
 induction o.after.toList with
 | nil=>rfl
 | cons e r ih=>
  rw [List.all_cons,ih,List.filter_cons];cases h:Region.binds md e<;>simp
theorem BK (o:Oper)(p:Nat->Bool):o.after.any (fun e=>Region.binds md e && p e.on)=(m6 md o).any p:=by
 unfold m6;rw [<- Array.any_toList]
 induction o.after.toList with
 | nil=>rfl
 | cons e r ih=>
  rw [List.any_cons,ih,List.filter_cons];cases h:Region.binds md e<;>simp
theorem pY:(cH md ops).2.length=ops.size:=by simp [cH]
theorem pZ {o:Oper}(h:ops[i]? = some o):(cH md ops).2[i]? = some (m6 md o,sI md ops i o):=by
 have hi:=(Array.getElem?_eq_some_iff.1 h).1;unfold cH;rw [List.getElem?_map,List.getElem?_range hi,Option.map_some,h]
theorem p6 (h:ops[i]? = none):(cH md ops).2[i]? = none:=by
 have hi:ops.size<=i:=Array.getElem?_eq_none_iff.1 h;exact MJ (by rw [pY];exact hi)
theorem BL:lB (cH md ops).2 l.toList i=(!l.getD i true && ((ops[i]?).map (·.after.all fun e=>!Region.binds md e || l.getD e.on false)).getD false):=by
 unfold lB;rw [gd];cases h:ops[i]? with
 | none=>rw [p6 h];rfl
 | some o=>
  rw [pZ h];simp only [Option.map_some,Option.getD_some];rw [<- vK];simp only [gd]
theorem sJ:Region.ready md ops l=oB (cH md ops).2 l.toList:=by
 unfold Region.ready oB;rw [pY];refine List.filter_congr (fun i _=>?_);rw [BL]
theorem vL:Region.free md ops l i=oC (cH md ops).2 l.toList i:=by
 unfold Region.free oC;cases h:ops[i]? with
 | none=>rw [p6 h]
 | some oi=>
  rw [pZ h];simp only [sI];rw [List.all_filter];congr 1;funext j;rw [gd];cases hj:ops[j]? with
  | none=>cases (j==i)<;>cases (l.toList.getD j true)<;>simp
  | some oj=>
   cases (j==i)<;>cases (l.toList.getD j true)<;>cases (oj.after.any (fun e=>Region.binds md e && e.on==i) || oi.apart ops oj)<;>simp_all
theorem BM:Region.closedB md ops l=pW (cH md ops).2 l.toList:=by
 unfold Region.closedB pW;rw [pY];congr 1;funext j;rw [gd];cases h:ops[j]? with
 | none=>rw [p6 h]
 | some o=>
  rw [pZ h];simp only;rw [<- vK];simp only [gd]
theorem vM:∀ (fuel d:Nat),Region.reachB md ops i fuel d=m7 (cH md ops).2 i fuel d
 | 0,_=>rfl
 | fuel+1,d=>by
  unfold Region.reachB m7;cases h:ops[d]? with
  | none=>rw [p6 h]
  | some o=>
   rw [pZ h];simp only;rw [<- BK];congr 1;funext e;rw [vM fuel]
theorem BN:Region.lastB md ops l ds i=pX (cH md ops).2 l.toList ds i:=by
 unfold Region.lastB pX;rw [pY];congr 1;funext d;rw [gd,vM]
theorem vN (h:lB T.2 l.toList i=true)(hT:cH md ops=T):(Region.ready md ops l).contains i=true:=by
 subst hT;rw [sJ];unfold oB;rw [List.contains_iff_mem,List.mem_filter,List.mem_range];refine⟨?_,h⟩;unfold lB at h;rw [Mx] at h;cases hq:(cH md ops).2[i]? with
 | none=>rw [hq] at h;simp at h
 | some r=>exact (List.getElem?_eq_some_iff.1 hq).1
theorem sK (h:(l.toList.set i true==l'.toList)=true):(l.setIfInBounds i true==l')=true:=by
 rw [beq_iff_eq] at h ⊢;apply Array.ext';rw [Array.toList_setIfInBounds];exact h
def sL (T:Bool×List (List Nat×List Nat))(l l':List Bool)(i:Nat):Bool:=T.1 && oC T.2 l i && lB T.2 l i && (l.set i true==l')
theorem my (hT:cH md ops=T)(h:sL T l.toList l'.toList i=true):pV md ops l l' i=true:=by
 simp only [sL,Mx] at h;obtain⟨⟨⟨h1,h2⟩,h3⟩,h4⟩:=h;have h5:=vN h3 hT;have h6:=sK h4;subst hT;simp only [pV,Mx];exact⟨⟨⟨h1,by rw [vL];exact h2⟩,h5⟩,h6⟩
def sM (T:Bool×List (List Nat×List Nat))(ds:List Nat)(l l':List Bool)(i:Nat):Bool:=T.1 && oC T.2 l i && lB T.2 l i && pW T.2 l && pX T.2 l ds i && (l.set i true==l')
theorem BO (hT:cH md ops=T)(h:sM T ds l.toList l'.toList i=true):oA md ops ds l l' i=true:=by
 simp only [sM,Mx] at h;obtain⟨⟨⟨⟨⟨h1,h2⟩,h3⟩,h4⟩,h5⟩,h6⟩:=h;have h7:=vN h3 hT;have h8:=sK h6;subst hT;simp only [oA,Mx];exact⟨⟨⟨⟨⟨h1,by rw [vL];exact h2⟩,h7⟩,by rw [BM];exact h4⟩,by rw [BN];exact h5⟩,h8⟩
theorem dJ (hT:cH md ops=T)(h:(oB T.2 l.toList==[i] && l.toList.set i true==l'.toList)=true):m5 md ops l l' i=true:=by
 simp only [Mx] at h;obtain⟨h1,h2⟩:=h;subst hT;simp only [m5,Mx];exact⟨by rw [sJ];exact h1,sK h2⟩
theorem jm (hT:cH md ops=T)(h:(oB T.2 l.toList==[])=true):(Region.ready md ops l==[])=true:=by
 subst hT;rw [sJ];exact h
def mz (B:List Nat)(d:Nat):List Nat->Nat
 | []=>0
 | n :: r=>(2 ^ n ||| (if n<d then B.getD n 0 else 0)) ||| mz B d r
def iw (T:List (List Nat×List Nat))(B:List Nat):Bool:=(MK T.length).all fun d=>match T[d]? with
 | some r=>(B.getD d 0 ||| mz B d r.1)==mz B d r.1
 | none=>false
theorem vO {B:List Nat}{d i:Nat}:∀ {ns:List Nat},(mz B d ns).testBit i=true->∃ n∈ns,n=i\/(n<d/\(B.getD n 0).testBit i=true)
 | [],h=>by simp [mz] at h
 | n :: r,h=>by
  unfold mz at h;rw [Nat.testBit_or,Nat.testBit_or,ML,ML] at h;rcases h with (h | h) | h
  ·rw [Nat.testBit_two_pow] at h;exact⟨n,List.mem_cons_self,.inl (by simpa using h)⟩
  rotate_left
  ·obtain⟨m,hm,h2⟩:=vO h;exact⟨m,List.mem_cons_of_mem _ hm,h2⟩
  by_cases hn:n<d;rotate_left
  ·rw [if_neg hn] at h;simp at h
  rw [if_pos hn] at h;exact⟨n,List.mem_cons_self,.inr ⟨hn,h⟩⟩
theorem vP {T:List (List Nat×List Nat)}{B:List Nat}(hB:iw T B=true):∀ (fuel d:Nat),d<fuel->d<T.length->(B.getD d 0).testBit i=true->m7 T i fuel d=true
 | 0,d,h,_,_=>by omega
 | fuel+1,d,h,hd,hb=>by
  have h1:=List.all_eq_true.1 hB d (List.mem_range.2 hd);cases hr:T[d]? with
  | none=>rw [hr] at h1;simp at h1
  | some r=>
   rw [hr] at h1;simp only [beq_iff_eq] at h1;have h2:(mz B d r.1).testBit i=true:=by rw [<- h1,Nat.testBit_or,hb,Bool.true_or]
   obtain⟨n,hn,h3⟩:=vO h2;unfold m7;rw [hr];simp only;rw [List.any_eq_true];refine⟨n,hn,?_⟩;rcases h3 with rfl | ⟨h4,h5⟩
   ·simp
   rw [vP hB fuel n (by omega) (by omega) h5,Bool.or_true]
def vQ (T:List (List Nat×List Nat))(B:List Nat)(l:List Bool)(ds:List Nat)(i:Nat):Bool:=ds.all fun d=>l.getD d true || (decide (d<T.length) && (B.getD d 0).testBit i)
def sN (T:Bool×List (List Nat×List Nat))(B:List Nat)(ds:List Nat)(l l':List Bool)(i:Nat):Bool:=T.1 && oC T.2 l i && lB T.2 l i && pW T.2 l && vQ T.2 B l ds i && (l.set i true==l')
theorem BP {B:List Nat}(hT:cH md ops=T)(hB:iw T.2 B=true)(h:sN T B ds l.toList l'.toList i=true):oA md ops ds l l' i=true:=by
 refine BO hT ?_;simp only [sN,sM,Mx] at h ⊢;obtain⟨⟨⟨⟨⟨h1,h2⟩,h3⟩,h4⟩,h5⟩,h6⟩:=h;refine⟨⟨⟨⟨⟨h1,h2⟩,h3⟩,h4⟩,?_⟩,h6⟩;unfold vQ at h5;unfold pX;rw [List.all_eq_true] at h5 ⊢;intro d hd;have h7:=h5 d hd;rw [ML,Mx,decide_eq_true_eq] at h7;rcases h7 with h7 | ⟨h8,h9⟩
 ·rw [h7,Bool.true_or]
 rw [vP hB _ d h8 h8 h9,Bool.or_true]
theorem jn {P:Program}{Q:Exit->Act->World->Prop}{S:World->Prop}{n:Nat}{a:Act}{w:World}{B:List Nat}(hT:cH md ops=T)(hB:iw T.2 B=true)(h:Aside0 (cH md ops=T)->Aside0 (iw T.2 B=true)->bu P md ops Q S ds n l a w):bu P md ops Q S ds n l a w:=h ⟨hT⟩ ⟨hB⟩
end
def jQ:Code->Nat->Option (Array Oper)
 | .region id ops _,k=>if id==k then some ops else none
 | .seq a b,k=>match jQ a k with
  | some o=>some o
  | none=>jQ b k
 | .cond _ a b,k=>match jQ a k with
  | some o=>some o
  | none=>jQ b k
 | .block _ c,k=>jQ c k
 | .loop c,k=>jQ c k
 | .scope c,k=>jQ c k
 | .rangeFunc _ _ a b,k=>match jQ a k with
  | some o=>some o
  | none=>jQ b k
 | _,_=>none
def lC (f:Func)(k:Nat):Array Oper:=((f.body.bind fun c=>jQ c k)).getD #[]
end Go.Proofs.YtgccjgpdjkhpdaaGreatW.PrintLast
namespace Go.Proofs.YtgccjgpdjkhpdaaGreatW.PrintLast
section
variable {P:Program} {ops:Array Oper} {Q:Exit->Act->World->Prop} {md:Region.Mode} {S:World->Prop} {ds:List Nat} {T:Bool×List (List Nat×List Nat)}
theorem ib {i j k m:Nat}{Ni Nj Nk Nm:Option Tmp}{oi oj ok om:Oper}{fuel:Nat}{l:Array Bool}{a:Act}{w:World}(li lj lk lm:Array Bool)(hi:ops[i]? = some oi)(hj:ops[j]? = some oj)(hk:ops[k]? = some ok)(hm:ops[m]? = some om)(hNi:oi.dst=Ni)(hNj:oj.dst=Nj)(hNk:ok.dst=Nk)(hNm:om.dst=Nm)
  (hc:(Region.ready md ops l==[i,j,k,m] && l.setIfInBounds i true==li && l.setIfInBounds j true==lj && l.setIfInBounds k true==lk && l.setIfInBounds m true==lm)=true) (hdi:i∉ds) (hdj:j∉ds) (hdk:k∉ds) (hdm:m∉ds)
  (hhi:∀ K:Act->World->Prop,Shut (∀ a' w',S w'->(S w'->bu P md ops Q S ds fuel li a' w')->K a' w')->if Region.wanted oi (yielded ops a.tmps)=true then Oper.wp P oi a w K Q else K (a.put Ni undef) w)
  (hhj:∀ K:Act->World->Prop,Shut (∀ a' w',S w'->(S w'->bu P md ops Q S ds fuel lj a' w')->K a' w')->if Region.wanted oj (yielded ops a.tmps)=true then Oper.wp P oj a w K Q else K (a.put Nj undef) w)
  (hhk:∀ K:Act->World->Prop,Shut (∀ a' w',S w'->(S w'->bu P md ops Q S ds fuel lk a' w')->K a' w')->if Region.wanted ok (yielded ops a.tmps)=true then Oper.wp P ok a w K Q else K (a.put Nk undef) w)
  (hhm:∀ K:Act->World->Prop,Shut (∀ a' w',S w'->(S w'->bu P md ops Q S ds fuel lm a' w')->K a' w')->if Region.wanted om (yielded ops a.tmps)=true then Oper.wp P om a w K Q else K (a.put Nm undef) w) :
  bu P md ops Q S ds (fuel+1) l a w:=by
 subst hNi;subst hNj;subst hNk;subst hNm;simp only [Mx,beq_iff_eq] at hc;obtain⟨⟨⟨⟨hr,hsi⟩,hsj⟩,hsk⟩,hsm⟩:=hc;subst hsi;subst hsj;subst hsk;subst hsm;exact sH hr (by simp) (fj.cons hi hdi (fun K hK=>hhi K hK) (fj.cons hj hdj (fun K hK=>hhj K hK) (fj.cons hk hdk (fun K hK=>hhk K hK) (fj.cons hm hdm (fun K hK=>hhm K hK) fj.nil))))
end
end Go.Proofs.YtgccjgpdjkhpdaaGreatW.PrintLast
namespace Go.Proofs.YtgccjgpdjkhpdaaGreatW.PrintWords
theorem ar.one {α:Type}{R:α->List Value->Prop}{ps:List α}{cs:List Value}{p:α}{v:Value}(hp:R p [v])(h:ar R 1 ps cs):ar R 1 (p :: ps) (v :: cs):=by
 refine⟨by simp [h.1],fun j q hq=>?_⟩;cases j with
 | zero=>
  simp only [List.getElem?_cons_zero,Option.some.injEq] at hq;subst hq;simpa using hp
 | succ j=>
  simp only [List.getElem?_cons_succ] at hq;have h1:=h.2 j q hq;simpa [Nat.mul_one] using h1
theorem ar.front {α:Type}{R:α->List Value->Prop}{size:Nat}{ps:List α}{cs c all:List Value}{p:α}(hp:R p c)(hc:c.length=size)(h:ar R size ps cs)(ha:c++cs=all):ar R size (p :: ps) all:=by
 subst ha;refine⟨by rw [MA,hc,h.1,List.length_cons,Mz,Nat.add_comm],fun j q hq=>?_⟩;cases j with
 | zero=>
  simp only [List.getElem?_cons_zero,Option.some.injEq] at hq;subst hq;rw [Nat.zero_mul,List.drop_zero,List.take_append_of_le_length (by omega),List.take_of_length_le (by omega)];exact hp
 | succ j=>
  simp only [List.getElem?_cons_succ] at hq;have h1:=h.2 j q hq;rw [Mz,List.drop_append,List.drop_of_length_le (by rw [hc];exact Nat.le_add_left _ _),List.nil_append,hc,Nat.add_sub_cancel]
  exact h1
theorem ar.c2 {α:Type}{R:α->List Value->Prop}{ps:List α}{cs:List Value}{p:α}{va vb:Value}(hp:R p [va,vb])(h:ar R 2 ps cs):ar R 2 (p :: ps) (va :: vb :: cs):=ar.front hp rfl h rfl
theorem ar.c3 {α:Type}{R:α->List Value->Prop}{ps:List α}{cs:List Value}{p:α}{va vb vc:Value}(hp:R p [va,vb,vc])(h:ar R 3 ps cs):ar R 3 (p :: ps) (va :: vb :: vc :: cs):=ar.front hp rfl h rfl
theorem ar.c4 {α:Type}{R:α->List Value->Prop}{ps:List α}{cs:List Value}{p:α}{va vb vc vd:Value}(hp:R p [va,vb,vc,vd])(h:ar R 4 ps cs):ar R 4 (p :: ps) (va :: vb :: vc :: vd :: cs):=ar.front hp rfl h rfl
theorem ar.c5 {α:Type}{R:α->List Value->Prop}{ps:List α}{cs:List Value}{p:α}{va vb vc vd ve:Value}(hp:R p [va,vb,vc,vd,ve])(h:ar R 5 ps cs):ar R 5 (p :: ps) (va :: vb :: vc :: vd :: ve :: cs):=ar.front hp rfl h rfl
theorem ar.c6 {α:Type}{R:α->List Value->Prop}{ps:List α}{cs:List Value}{p:α}{va vb vc vd ve vf:Value}(hp:R p [va,vb,vc,vd,ve,vf])(h:ar R 6 ps cs):ar R 6 (p :: ps) (va :: vb :: vc :: vd :: ve :: vf :: cs):=ar.front hp rfl h rfl
theorem ar.c7 {α:Type}{R:α->List Value->Prop}{ps:List α}{cs:List Value}{p:α}{va vb vc vd ve vf vg:Value}(hp:R p [va,vb,vc,vd,ve,vf,vg])(h:ar R 7 ps cs):ar R 7 (p :: ps) (va :: vb :: vc :: vd :: ve :: vf :: vg :: cs):=ar.front hp rfl h rfl
theorem ar.c8 {α:Type}{R:α->List Value->Prop}{ps:List α}{cs:List Value}{p:α}{va vb vc vd ve vf vg vh:Value}(hp:R p [va,vb,vc,vd,ve,vf,vg,vh])(h:ar R 8 ps cs):ar R 8 (p :: ps) (va :: vb :: vc :: vd :: ve :: vf :: vg :: vh :: cs):=ar.front hp rfl h rfl
theorem ar.c9 {α:Type}{R:α->List Value->Prop}{ps:List α}{cs:List Value}{p:α}{va vb vc vd ve vf vg vh vi:Value}(hp:R p [va,vb,vc,vd,ve,vf,vg,vh,vi])(h:ar R 9 ps cs):ar R 9 (p :: ps) (va :: vb :: vc :: vd :: ve :: vf :: vg :: vh :: vi :: cs):=ar.front hp rfl h rfl
theorem ar.c10 {α:Type}{R:α->List Value->Prop}{ps:List α}{cs:List Value}{p:α}{va vb vc vd ve vf vg vh vi vj:Value}(hp:R p [va,vb,vc,vd,ve,vf,vg,vh,vi,vj])(h:ar R 10 ps cs):ar R 10 (p :: ps) (va :: vb :: vc :: vd :: ve :: vf :: vg :: vh :: vi :: vj :: cs):=ar.front hp rfl h rfl
end Go.Proofs.YtgccjgpdjkhpdaaGreatW.PrintWords
namespace Go.Proofs.YtgccjgpdjkhpdaaGreatW.PrintLast
def up (b:Nat->Bool)(i:Nat):Nat->Bool:=fun j=>if j=i then true else b j
end Go.Proofs.YtgccjgpdjkhpdaaGreatW.PrintLast
