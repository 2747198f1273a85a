import Derived.Test.YtgccjgpdjkhpdaaGreatProg
import Derived.Below
import Derived.Deep.Draws
import Derived.Deep.AppendLies
import Derived.Maps.AppendAt
import Derived.OwnWalk
import Derived.Laws.BytesArg
import Derived.Laws.MakeOwn
import Derived.Laws.OwnMore
import Derived.Deep.OwnRows
import Derived.Tactics
import Derived.Lib.ConvBytes
import Derived.Laws.Slices
import Derived.WalkKit
import Derived.KernelRfl
import Derived.RowKit3
import Derived.Deep.LoopGhost
import Derived.Deep.QuietTactic
import Derived.BigQuiet
import Derived.WideLaws
import Derived.Deep.DeepCutAuto
import Derived.Deep.CutBlock
import Derived.Deep.RegionHeld3
import Derived.Laws.Rows
import Derived.Lib.AppendStr
import Derived.ArgAppend
import Derived.Laws.IdiomCopy
import Derived.OrdersHeld
import Derived.Laws.BitsLemmas
import Derived.RowKit
import Derived.Laws.StructEq
import Derived.Great.Frames
import Derived.Test.YtgccjgpdjkhpdaaGreatVErrors1
/-! Own texts of this claim, part 2. -/
namespace Go.Proofs.YtgccjgpdjkhpdaaGreat.F
open Go.RowKit Go.Proofs.YtgccjgpdjkhpdaaGreatW.PrintWords Go.Proofs.YtgccjgpdjkhpdaaGreatW.PrintLast Go.Proofs.YtgccjgpdjkhpdaaGreatW.PrintMore
attribute [local go_sem] fB fC fD fE fF fG fH fI
set_option linter.unusedVariables false
set_option linter.unusedSimpArgs false
def yi:Option Int->Value
 | none=>.nilIface
 | some c=>.iface 0 (.int .i64 c)
theorem gT:yi none=.nilIface:=rfl
theorem gU (c:Int):yi (some c)=.iface 0 (.int .i64 c):=rfl
theorem Eo:(Tryz.prog.info? 3).map (fun i=>(i.zero,i.size,i.bytes))=some (some (.int .i64 0),1,8):=by kernel_rfl
theorem yj:(Tryz.prog.info? 4).map (fun i=>(i.zero,i.size,i.bytes))=some (some (.bool false),1,1):=by kernel_rfl
theorem cS:(Tryz.prog.info? 5).map (fun i=>(i.zero,i.size,i.bytes))=some (some (.int .u8 0),1,1):=by kernel_rfl
theorem yk:(Tryz.prog.info? 45).map (fun i=>(i.zero,i.size,i.bytes))=some (some (.slice none 0 0),1,24):=by kernel_rfl
def aV (xs:List (List Bool))(i:Int):(List Bool):=xs.getD i.toNat ([]:List Bool)
theorem oV {w:World}{A:Option Addr}{n:Nat}{xs:List (List Bool)}(h:Kd.C (Kd.slice 4 Kd.bool) w A n xs)(i:Int)(h0:0<=i)(h1:i<n):∃ ad A0 c0,A=some ad/\w.cell? (ad.add i.toNat)=some (.slice A0 (aV xs i).length c0)/\(aV xs i).length<=c0/\Kd.bool.C w A0 (aV xs i).length (aV xs i):=by
 obtain⟨ad,c,e,_,hK,hc0⟩:=Kd.mY h ([]:List Bool) i h0 h1;have hc:∀ j u,c[j]? = some u->w.cell? (ad.add (i.toNat*1+j))=some u:=hc0;obtain⟨A0,c0,rfl,l0,g0⟩:=hK;exact⟨ad,A0,c0,e,by have hq:=hc 0 _ rfl;rwa [Nat.mul_one,Nat.add_zero] at hq,l0,g0⟩
structure gv where
 f0:Int
 f1:Int
def yl:Kd gv:=Kd.iso (Kd.sD (Kd.int .i64) (Kd.int .i64)) (fun x:gv=>(x.f0,x.f1))
structure gV where
 f0:Int
 f1:(List gv)
def k224:Kd gV:=Kd.iso (Kd.sD (Kd.int .i64) (Kd.slice 221 yl)) (fun x:gV=>(x.f0,x.f1))
def kN (xs:List (List Int))(i:Int):(List Int):=xs.getD i.toNat ([]:List Int)
theorem ym {w:World}{A:Option Addr}{n:Nat}{xs:List (List Int)}(h:Kd.C (Kd.slice 5 (Kd.int .u8)) w A n xs)(i:Int)(h0:0<=i)(h1:i<n):∃ ad A0 c0,A=some ad/\w.cell? (ad.add i.toNat)=some (.slice A0 (kN xs i).length c0)/\(kN xs i).length<=c0/\(Kd.int .u8).C w A0 (kN xs i).length (kN xs i):=by
 obtain⟨ad,c,e,_,hK,hc0⟩:=Kd.mY h ([]:List Int) i h0 h1;have hc:∀ j u,c[j]? = some u->w.cell? (ad.add (i.toNat*1+j))=some u:=hc0;obtain⟨A0,c0,rfl,l0,g0⟩:=hK;exact⟨ad,A0,c0,e,by have hq:=hc 0 _ rfl;rwa [Nat.mul_one,Nat.add_zero] at hq,l0,g0⟩
structure bl where
 f0:Int
 f1:(List Int)
def z98:bl:=⟨(0:Int),([]:List Int)⟩
def dU:Kd bl:=Kd.iso (Kd.sD (Kd.int .i64) (Kd.slice 5 (Kd.int .u8))) (fun x:bl=>(x.f0,x.f1))
theorem Ep {w:World}{x:bl}{cs:List Value}(h:dU.K w x cs):∃ A1 c1,cs=[.int .i64 x.f0,.slice A1 x.f1.length c1]/\x.f1.length<=c1/\(Kd.int .u8).C w A1 x.f1.length x.f1:=by
 obtain⟨_,_,rfl,rfl,⟨A1,c1,rfl,l1,g1⟩⟩:=h;exact⟨A1,c1,rfl,l1,g1⟩
theorem Er (w:World)(x:bl){A1:Option Addr}{c1:Nat}(l1:x.f1.length<=c1)(g1:(Kd.int .u8).C w A1 x.f1.length x.f1):dU.K w x [.int .i64 x.f0,.slice A1 x.f1.length c1]:=⟨[.int .i64 x.f0],[.slice A1 x.f1.length c1],rfl,rfl,⟨A1,c1,rfl,l1,g1⟩⟩
theorem Es (w:World)(base:Nat)(ok:Nat->Prop)(x:bl){v1:Value}(g1:(Kd.int .u8).R 5 w base ok v1 x.f1):dU.M w base ok x [.int .i64 x.f0,v1]:=⟨[.int .i64 x.f0],[v1],rfl,rfl,⟨v1,rfl,g1⟩⟩
def cC (xs:List bl)(i:Int):bl:=xs.getD i.toNat z98
theorem nl {w:World}{A:Option Addr}{n:Nat}{xs:List bl}(h:Kd.C dU w A n xs)(i:Int)(h0:0<=i)(h1:i<n):∃ ad A1 c1,A=some ad/\w.cell? (ad.add (i.toNat*2))=some (.int .i64 (cC xs i).f0)/\w.cell? ⟨(ad.add (i.toNat*2)).block,(ad.add (i.toNat*2)).off+1,none⟩=some (.slice A1 (cC xs i).f1.length c1)/\(cC xs i).f1.length<=c1/\(Kd.int .u8).C w A1 (cC xs i).f1.length (cC xs i).f1:=by
 obtain⟨ad,c,e,_,hK,hc0⟩:=Kd.mY h z98 i h0 h1;have hc:∀ j u,c[j]? = some u->w.cell? (ad.add (i.toNat*2+j))=some u:=hc0;obtain⟨A1,c1,rfl,l1,g1⟩:=Ep hK;exact⟨ad,A1,c1,e,hc 0 _ rfl,by rw [<- Bj _ _ 1 (by omega)];exact hc 1 _ rfl,l1,g1⟩
end Go.Proofs.YtgccjgpdjkhpdaaGreat.F
namespace Go.Proofs.YtgccjgpdjkhpdaaGreat.F
open Go.RowKit Go.Proofs.YtgccjgpdjkhpdaaGreatW.PrintWords Go.Proofs.YtgccjgpdjkhpdaaGreatW.PrintLast Go.Proofs.YtgccjgpdjkhpdaaGreatW.PrintMore
set_option linter.unusedVariables false
section
variable {P:Program} {md:Region.Mode} {ops:Array Oper} {Q:Exit->Act->World->Prop} {S:World->Prop} {ds:List Nat} {T:Bool×List (List Nat×List Nat)} {B:List Nat}
theorem hv_ {oi:Oper}{a:Act}{v v':Value}(h:∀ w,(execOp a.eval oi).run P w=.ok (.value v) w)(e:v=v'):∀ w,(execOp a.eval oi).run P w=.ok (.value v') w:=e ▸ h
theorem pu_ {oi:Oper}{v:Value}{fuel:Nat}{l l':Array Bool}{a a':Act}{w:World}(i n:Nat)(hT:Aside0 (cH md ops=T))(h:bu P md ops Q S ds fuel l' a' w)
  (hi:ops[i]? = some oi:=by exact rfl) (hN:oi.dst=some n:=by exact rfl) (hl:l.setIfInBounds i true=l':=by (refine Eq.trans (b:=?_) ?_ (Eq.refl _);rotate_left;(simp only [List.setIfInBounds_toArray,List.set_cons_zero,List.set_cons_succ];rfl))) (hc:sL T l.toList l'.toList i=true:=by kernel_rfl)
  (hQ:∀ c a w,Q (.panic c) (a.put oi.dst v) w->Q (.panic c) a w:=by exact fun _ _ _ h=>h) (hw:Region.wanted oi (yielded ops a.tmps)=true:=by rfl) (hv:∀ w,(execOp a.eval oi).run P w=.ok (.value v) w:=by (refine hv_ (v:=?_) ?_ (Eq.refl _);rotate_left;(intro w';go_simp;try with_reducible rfl)))
  (ha:a.put (some n) v=a':=by (refine Eq.trans (b:=?_) ?_ (Eq.refl _);rotate_left;(simp only [Act.put,List.setIfInBounds_toArray,List.set_cons_zero,List.set_cons_succ,gK,kC];rfl))):bu P md ops Q S ds (fuel+1) l a w :=
 mu l' hi hN (my hT.out hc) hQ (Or.inl ⟨hw,hv⟩) ha h
theorem hvS_ {oi:Oper}{a:Act}{v v':Value}(h:∀ w,S w->(execOp a.eval oi).run P w=.ok (.value v) w)(e:v=v'):∀ w,S w->(execOp a.eval oi).run P w=.ok (.value v') w:=e ▸ h
theorem ta_ {oi:Oper}{v:Value}{fuel:Nat}{l l':Array Bool}{a a':Act}{w:World}(i n:Nat)(hT:Aside0 (cH md ops=T))(hB:Aside0 (iw T.2 B=true))(hS:S w)(h:bu P md ops Q S ds fuel l' a' w)
  (hi:ops[i]? = some oi:=by exact rfl) (hN:oi.dst=some n:=by exact rfl) (hl:l.setIfInBounds i true=l':=by (refine Eq.trans (b:=?_) ?_ (Eq.refl _);rotate_left;(simp only [List.setIfInBounds_toArray,List.set_cons_zero,List.set_cons_succ];rfl))) (hc:sN T B ds l.toList l'.toList i=true:=by kernel_rfl)
  (hQ:∀ c a w,Q (.panic c) (a.put oi.dst v) w->Q (.panic c) a w:=by exact fun _ _ _ h=>h) (hw:Region.wanted oi (yielded ops a.tmps)=true:=by rfl)
  (hv:∀ w,S w->(execOp a.eval oi).run P w=.ok (.value v) w:=by (refine hvS_ (v:=?_) ?_ (Eq.refl _);rotate_left;(intro w' s0;(try have s1:=s0.1);(try have s2:=s0.2);(try have s3:=s0.2.1);(try have s4:=s0.2.2);(try have s5:=s0.2.2.1);(try have s6:=s0.2.2.2);go_simp;try with_reducible rfl)))
  (ha:a.put (some n) v=a':=by (refine Eq.trans (b:=?_) ?_ (Eq.refl _);rotate_left;(simp only [Act.put,List.setIfInBounds_toArray,List.set_cons_zero,List.set_cons_succ,gK,kC];rfl))):bu P md ops Q S ds (fuel+1) l a w :=
 take_ l' hi hN (BP hT.out hB.out hc) hQ (Or.inl ⟨hw,hv⟩) hS ha h
theorem no_ {fuel n:Nat}{v:Value}{l:Array Bool}{a a':Act}{w:World}(h:bu P md ops Q S ds fuel l a' w)(ha:a.put (some n) v=a':=by (refine Eq.trans (b:=?_) ?_ (Eq.refl _);rotate_left;(simp only [Act.put,List.setIfInBounds_toArray,List.set_cons_zero,List.set_cons_succ,gK,kC];rfl))):bu P md ops Q S ds fuel l (a.put (some n) v) w:=BI ha h
end
theorem bE {p:Prop}[Decidable p]{α:Type}{x:Option α}{r:α}(h:(if p then x else none)=some r):p/\x=some r:=by
 by_cases c:p
 ·exact⟨c,by rwa [if_pos c] at h⟩
 rw [if_neg c] at h;cases h
theorem dE {α β:Type}{o:Option α}{f:α->Option β}{r:β}(h:o.bind f=some r):∃ a,Aside0 (o=some a)/\f a=some r:=by
 obtain⟨a,h1,h2⟩:=Option.bind_eq_some_iff.mp h;exact⟨a,⟨h1⟩,h2⟩
end Go.Proofs.YtgccjgpdjkhpdaaGreat.F
namespace Go.Proofs.YtgccjgpdjkhpdaaGreat.B
open Go.RowKit Go.Proofs.YtgccjgpdjkhpdaaGreatW.PrintWords Go.Proofs.YtgccjgpdjkhpdaaGreatW.PrintLast Go.Proofs.YtgccjgpdjkhpdaaGreatW.PrintMore
set_option linter.unusedVariables false
set_option linter.unusedSimpArgs false
def Blk (w:World)(g:Nat)(t:TypeId)(cs:Array Value):Prop:=w.heap[g]? = some (.cells cs t (0,0))
theorem Blk.cell {w:World}{g:Nat}{t:TypeId}{cs:Array Value}(h:Blk w g t cs)(i:Nat):w.cell? ⟨g,i,none⟩=cs[i]?:=kA h i
theorem Blk.frozen {w:World}{g:Nat}{t:TypeId}{cs:Array Value}(h:Blk w g t cs)(i:Nat):w.frozen? ⟨g,i,none⟩=false:=jO h i
theorem Blk.lt {w:World}{g:Nat}{t:TypeId}{cs:Array Value}(h:Blk w g t cs):g<w.heap.size:=ky h
theorem Blk.ucell {w:World}{g:Nat}{t:TypeId}{k:IntKind}{xs:List Int}(h:Blk w g t (ac k xs).toArray)(i:Int)(h0:0<=i)(h1:i<xs.length):w.cell? ⟨g,i.toNat,none⟩=some (.int k (rd xs i)):=by
 rw [h.cell];simp [ac,rd,List.getD,List.getElem?_eq_getElem (show i.toNat<xs.length by omega)]
theorem Blk.uset {w:World}{g:Nat}{t:TypeId}{k:IntKind}{xs:List Int}(h:Blk w g t (ac k xs).toArray)(i:Nat)(v:Int):Blk (w.setCell ⟨g,i,none⟩ (.int k v)) g t (ac k (xs.set i v)).toArray:=by
 have:=bK h i (.int k v);unfold Blk;rw [this];simp [ac,List.map_set]
theorem Blk.far {w:World}{g:Nat}{t:TypeId}{cs:Array Value}(h:Blk w g t cs){p:Addr}(hp:g≠p.block)(u:Value):Blk (w.setCell p u) g t cs:=sx h hp u
theorem Blk.alloc {w:World}{g:Nat}{t:TypeId}{cs:Array Value}(h:Blk w g t cs)(o:Obj):Blk (w.alloc o) g t cs:=mh h o
theorem Blk.below {w w':World}{g:Nat}{t:TypeId}{cs:Array Value}{B:Nat}(h:Blk w g t cs)(hb:Below B w w')(hg:g<B):Blk w' g t cs:=(hb.block g hg).trans h
theorem Blk.new (w:World)(t:TypeId)(cs:Array Value):Blk (w.alloc (.cells cs t)) w.heap.size t cs:=heap_alloc_new w _
theorem Et:(Tryz.prog.info? 214).map (fun i=>(i.zero,i.size,i.bytes))=some (some (.int .u32 0),1,4):=by kernel_rfl
theorem mH {P:Program}(t e:TypeId)(i:TypeInfo)(z:Value)(ht:P.underlying t=some (.slice e))(hi:P.info? e=some i)(hz:i.zero=some z)
  (kl kc:IntKind) (n c:Nat) (hnc:n<=c) (hbytes:i.bytes*c<=281474976710656) (h63:c<=9223372036854775807) (w:World) :
  (Instr.makeSlice t (.int kl (n:Int)) (.int kc (c:Int))).run P w=.ok (.slice (some ⟨w.heap.size,0,none⟩) n c) (w.alloc (.cells (madeCells z.cells (c*i.size)) e)):=by
 have hb:(i.bytes:Int)*(c:Int)<=281474976710656:=by
  have h:((i.bytes*c:Nat):Int)<=281474976710656:=by omega
  rwa [Int.natCast_mul] at h
 have hr:=run_make (P:=P) w t e i z ht hi hz kl kc n c (by omega) (by omega) hb (by omega);simp only [Int.toNat_natCast] at hr;exact hr
theorem Eu (n:Nat)(h:n<=1000000000)(w:World):(Instr.makeSlice 199 (.int .i64 (n:Int)) (.int .i64 (n:Int))).run Tryz.prog w=.ok (.slice (some ⟨w.heap.size,0,none⟩) n n) (w.alloc (.cells (ac .u32 (List.replicate n 0)).toArray 214)):=by
 obtain⟨i,hi,hz,hs,hb⟩:=info_parts Et;have:=mH (P:=Tryz.prog) 199 214 i (.int .u32 0) Tryz.underlying199 hi hz .i64 .i64 n n (Nat.le_refl _) (by rw [hb];omega) (by omega) w
 have e:madeCells (Value.int .u32 0).cells (n*1)=(ac .u32 (List.replicate n 0)).toArray:=by
  apply Array.toList_inj.1;rw [Nat.mul_one];exact (toList_madeCells_one _ _).trans (by simp [ac])
 rw [this,hs,e]
theorem Ew (w:World)(wd ht rs:Int)(N:Nat)(h1:1<=wd)(h2:1<=ht)(h3:wd<=100000000)(hrs:(wd+31)/32=rs)(hn:rs*ht=(N:Int))(hN:N<=1000000000) :
  Calls Tryz.prog 147 #[.int .i64 wd,.int .i64 ht] w fun e w'=>e=.returned (.tuple #[.pointer (some ⟨w.heap.size+1,0,none⟩),.nilIface])/\
   w'=(w.alloc (.cells (ac .u32 (List.replicate N 0)).toArray 214)).alloc (.cells #[.int .i64 wd,.int .i64 ht,.int .i64 rs,.slice (some ⟨w.heap.size,0,none⟩) N N] 201):=by
 have hmk:=Eu N hN;have a1:¬ wd<1:=by omega
 have a2:¬ ht<1:=by omega
 have a3:wrap64 (rs*ht)=(N:Int):=by rw [hn];unfold wrap64;omega
 go_enter Tryz.func147,Tryz.ntmps147
 go_wp2
 go_ret2
 exact⟨rfl,rfl⟩
structure af (w w':World)(gb:Nat):Prop where
 os:w'.os=w.os
 tape:w'.tape=w.tape
 output:w'.output=w.output
 size:w'.heap.size=w.heap.size
 block:∀ k,k≠gb->w'.heap[k]? = w.heap[k]?
theorem af.refl (w:World)(gb:Nat):af w w gb:=⟨rfl,rfl,rfl,rfl,fun _ _=>rfl⟩
theorem af.trans {a b c:World}{gb:Nat}(h:af a b gb)(k:af b c gb):af a c gb:=⟨k.os.trans h.os,k.tape.trans h.tape,k.output.trans h.output,k.size.trans h.size,fun i hi=>(k.block i hi).trans (h.block i hi)⟩
theorem af.set (w:World)(gb i:Nat)(u:Value):af w (w.setCell ⟨gb,i,none⟩ u) gb:=⟨rfl,rfl,rfl,by simp [World.setCell],fun k hk=>Below.heap_setCell w _ u k hk⟩
theorem af.blk {w w':World}{gb g:Nat}{t:TypeId}{cs:Array Value}(h:af w w' gb)(hb:Blk w g t cs)(hne:g≠gb):Blk w' g t cs:=(h.block g hne).trans hb
theorem af.below {w w':World}{gb B:Nat}(h:af w w' gb)(hB:B<=gb):Below B w w':=⟨h.os,h.tape,h.output,by rw [h.size];exact Nat.le_refl _,fun k hk=>h.block k (by omega)⟩
def mI (xs:List Int)(o x:Int):List Int:=xs.set (o+x/32).toNat (Go.bits .or .u32 (rd xs (o+x/32)) (2 ^ (x%32).toNat%4294967296))
def iZ (xs:List Int)(o left:Int):Nat->List Int
 | 0=>xs
 | n+1=>mI (iZ xs o left n) o (left+n)
def jt (xs:List Int)(rs left:Int)(n:Nat)(top:Int):Nat->List Int
 | 0=>xs
 | m+1=>iZ (jt xs rs left n top m) ((top+m)*rs) left n
theorem Ex (xs:List Int)(o x:Int):(mI xs o x).length=xs.length:=by simp [mI]
theorem yn (xs:List Int)(o left:Int)(n:Nat):(iZ xs o left n).length=xs.length:=by
 induction n with
 | zero=>rfl
 | succ n ih=>rw [iZ,Ex,ih]
theorem Ey (xs:List Int)(rs left:Int)(n:Nat)(top:Int)(m:Nat):(jt xs rs left n top m).length=xs.length:=by
 induction m with
 | zero=>rfl
 | succ m ih=>rw [jt,yn,ih]
theorem Ez (xs:List Int)(o left x:Int)(h:left<=x):iZ xs o left (x+1-left).toNat=mI (iZ xs o left (x-left).toNat) o x:=by
 rw [show (x+1-left).toNat=(x-left).toNat+1 by omega,iZ,show left+((x-left).toNat:Int)=x by omega]
theorem EA (xs:List Int)(rs left:Int)(n:Nat)(top y:Int)(h:top<=y):jt xs rs left n top (y+1-top).toNat=iZ (jt xs rs left n top (y-top).toNat) (y*rs) left n:=by
 rw [show (y+1-top).toNat=(y-top).toNat+1 by omega,jt,show top+((y-top).toNat:Int)=y by omega]
set_option maxHeartbeats 1000000 in
theorem EB (w:World)(g gb:Nat)(wd ht rs left top n m:Int)(xs:List Int)(N:Nat)
  (hg:Blk w g 201 #[.int .i64 wd,.int .i64 ht,.int .i64 rs,.slice (some ⟨gb,0,none⟩) N N]) (hb:Blk w gb 214 (ac .u32 xs).toArray) (hl:xs.length=N) (hN:N<=1000000000)
  (hrs:(wd+31)/32=rs) (hn:rs*ht=(N:Int)) (h0:0<=left) (h1:0<=top) (h2:1<=n) (h3:1<=m) (h4:left+n<=wd) (h5:top+m<=ht) (h6:wd<=100000000) (h7:ht<=100000000) :
  Calls Tryz.prog 142 #[.pointer (some ⟨g,0,none⟩),.int .i64 left,.int .i64 top,.int .i64 n,.int .i64 m] w fun e w'=>e=.returned .nilIface/\
   Blk w' gb 214 (ac .u32 (jt xs rs left n.toNat top m.toNat)).toArray/\af w w' gb:=by
 have hne:g≠gb:=bd hg hb (by decide);have c0:w.cell? ⟨g,0,none⟩=some (.int .i64 wd):=hg.cell 0;have c1:w.cell? ⟨g,1,none⟩=some (.int .i64 ht):=hg.cell 1;have HG:=Aside0.mk hg;have HB:=Aside0.mk hb;have HL:=Aside0.mk hl;have HN:=Aside0.mk hn;have HR:=Aside0.mk hrs;clear hg hb hl hn hrs
 go_enter Tryz.func142,Tryz.ntmps142
 go_wp2
 go_loopw [13] (fun v wr=>∃ y:Int,top<=y/\y<=top+m/\v=.int .i64 y/\Aside0 (Blk wr gb 214 (ac .u32 (jt xs rs left n.toNat top (y-top).toNat)).toArray)/\Aside0 (af w wr gb)) (fun v _=>(top+m-intOf v).toNat)
 case atStart=>exact⟨top,by omega,by omega,rfl,⟨by rw [show (top-top).toNat=0 by omega];exact HB.out⟩,⟨af.refl _ _⟩⟩
 case round=>
  obtain⟨y,hy1,hy2,rfl,HY,HT⟩:=hrel;clear c0 c1;by_cases hlt:y<top+m;rotate_left
  ·have:y=top+m:=by omega
   subst this
   go_wp2
   go_ret
   refine⟨rfl,?_,HT.out⟩;have:=HY.out
   rwa [show (top+m-top).toNat=m.toNat by omega] at this
  have hgr:=HT.out.blk HG.out hne;have c2:wr.cell? ⟨g,2,none⟩=some (.int .i64 rs):=hgr.cell 2;clear hgr;obtain⟨o,ho⟩:∃ o,y*rs=o:=⟨_,rfl⟩;have ho1:0<=o/\o+rs<=N:=by
   have hr0:0<=rs:=by have:=HR.out;omega
   have hq:=HN.out;have e1:=Int.mul_le_mul_of_nonneg_right (show y+1<=ht by omega) hr0;have e2:(y+1)*rs=y*rs+rs:=by rw [Int.add_mul,Int.one_mul]
   have e3:ht*rs=rs*ht:=Int.mul_comm _ _;have e4:=Int.mul_nonneg (show 0<=y by omega) hr0;omega
  obtain⟨ho1,ho2⟩:=ho1;have hr0:0<=rs:=by have:=HR.out;omega
  have how:wrap64 (y*rs)=o:=by rw [ho];unfold wrap64;omega
  have HO:=Aside0.mk ho;clear ho;obtain⟨ys,hys⟩:∃ ys,jt xs rs left n.toNat top (y-top).toNat=ys:=⟨_,rfl⟩;have hyl:ys.length=N:=by rw [<- hys,Ey,HL.out]
  rw [hys] at HY;have HYS:=Aside0.mk hys;have HYL:=Aside0.mk hyl;clear hys hyl
  go_wp2
  obtain⟨wo,rfl⟩:∃ wo:World,wo=wr:=⟨_,rfl⟩;clear c2
  go_loopw [15] (fun v wi=>∃ x:Int,left<=x/\x<=left+n/\v=.int .i64 x/\Aside0 (Blk wi gb 214 (ac .u32 (iZ ys o left (x-left).toNat)).toArray)/\Aside0 (af wo wi gb)) (fun v _=>(left+n-intOf v).toNat)
  case atStart=>exact⟨left,by omega,by omega,rfl,⟨by rw [show (left-left).toNat=0 by omega];exact HY.out⟩,⟨af.refl _ _⟩⟩
  case round=>
   obtain⟨x,hx1,hx2,rfl,HX,HU⟩:=hrel;by_cases hlx:x<left+n;rotate_left
   ·have:x=left+n:=by omega
    subst this
    go_wp2
    go_roundw
    case rel=>exact⟨y+1,by omega,by omega,by go_num,⟨by rw [EA _ _ _ _ _ _ hy1,HYS.out,HO.out];have:=HX.out;rwa [show (left+n-left).toNat=n.toNat by omega] at this⟩,⟨HT.out.trans HU.out⟩⟩
    case measure=>simp [intOf];omega
   have hgr:=HU.out.blk (HT.out.blk HG.out hne) hne;have c3:wr.cell? ⟨g,3,none⟩=some (.slice (some ⟨gb,0,none⟩) N N):=hgr.cell 3;clear hgr;obtain⟨zs,hzs⟩:∃ zs,iZ ys o left (x-left).toNat=zs:=⟨_,rfl⟩;have hzl:zs.length=N:=by rw [<- hzs,yn,HYL.out]
   rw [hzs] at HX;have b0:0<=o+x/32:=by omega
   have b1:o+x/32<(N:Int):=by have:=HR.out;omega
   have c4:wr.cell? ⟨gb,(o+x/32).toNat,none⟩=some (.int .u32 (rd zs (o+x/32))):=HX.out.ucell _ b0 (by omega);have c5:=HX.out.frozen (o+x/32).toNat;have HZ:=Aside0.mk hzs;clear hzs hzl
   go_wp2
   go_roundw
   case rel=>exact⟨x+1,by omega,by omega,by go_num,⟨by rw [Ez _ _ _ _ hx1,HZ.out];exact HX.out.uset _ _⟩,⟨HU.out.trans (af.set _ _ _ _)⟩⟩
   case measure=>simp [intOf];omega
theorem EC (w:World)(g:Nat)(ec:Int)(h:w.cell? ⟨g,0,none⟩=some (.int .i64 ec)):Calls Tryz.prog 158 #[.pointer (some ⟨g,0,none⟩)] w fun e w'=>e=.returned (.int .i64 ec)/\w=w':=by
 go_enter Tryz.func158,Tryz.ntmps158
 go_wp2
 go_ret
 exact⟨rfl,rfl⟩
theorem ED (w:World)(g:Nat)(v:Value)(h:w.cell? ⟨g,1,none⟩=some v):Calls Tryz.prog 159 #[.pointer (some ⟨g,0,none⟩)] w fun e w'=>e=.returned v/\w=w':=by
 go_enter Tryz.func159,Tryz.ntmps159
 go_wp2
 go_ret
 exact⟨rfl,rfl⟩
theorem EE (w:World)(p:Nat)(v:Value)(h:w.cell? ⟨p,0,none⟩=some v):Calls Tryz.prog 41 #[.pointer (some ⟨p,0,none⟩)] w fun e w'=>e=.returned v/\w=w':=by
 go_enter Tryz.func41,Tryz.ntmps41
 go_wp2
 go_ret
 exact⟨rfl,rfl⟩
theorem EF (w:World)(p:Nat)(n:Int)(h0:1<=n/\n<=40)(h:w.cell? ⟨p,0,none⟩=some (.int .i64 n)):Calls Tryz.prog 86 #[.pointer (some ⟨p,0,none⟩)] w fun e w'=>e=.returned (.int .i64 (17+4*n))/\w=w':=by
 obtain⟨h0,h1⟩:=h0
 go_enter Tryz.func86,Tryz.ntmps86
 go_wp2
 go_ret
 exact⟨rfl,rfl⟩
theorem qS (w:World)(a b:Int):Calls Tryz.prog 160 #[.agg #[.int .i64 a,.int .i64 b]] w fun e w'=>e=.returned (.int .i64 a)/\w'=w.alloc (.cells #[.int .i64 a,.int .i64 b] 221):=by
 go_enter Tryz.func160,Tryz.ntmps160
 go_wp2
 go_ret
 exact⟨rfl,rfl⟩
theorem yo (w:World)(a b:Int):Calls Tryz.prog 161 #[.agg #[.int .i64 a,.int .i64 b]] w fun e w'=>e=.returned (.int .i64 b)/\w'=w.alloc (.cells #[.int .i64 a,.int .i64 b] 221):=by
 go_enter Tryz.func161,Tryz.ntmps161
 go_wp2
 go_ret
 exact⟨rfl,rfl⟩
def fb:List (Int×Int)->List Value
 | []=>[]
 | p :: L=>.int .i64 p.1 :: .int .i64 p.2 :: fb L
def oW (ec:Int)(L:List (Int×Int)):Nat->Int
 | 0=>0
 | n+1=>oW ec L n+(L.getD n (0,0)).1*((L.getD n (0,0)).2+ec)
theorem tz:∀ (L:List (Int×Int)) (n:Nat),n<L.length->(fb L)[2*n]? = some (.int .i64 (L.getD n (0,0)).1)/\(fb L)[2*n+1]? = some (.int .i64 (L.getD n (0,0)).2):=by
 intro L
 induction L with
 | nil=>intro n h;cases h
 | cons p L ih=>
  intro n h;cases n with
  | zero=>exact⟨rfl,rfl⟩
  | succ n=>
   have:=ih n (by simpa using h);rw [show 2*(n+1)=2*n+1+1 by omega];simpa [fb] using this
set_option maxHeartbeats 1000000 in
theorem EG (w:World)(n ec:Int)(gc m ge g0:Nat)(k:Nat)(es:Array Value)(L:List (Int×Int))(hk:k=L.length)(hk2:L.length<=100)
  (he:Blk w ge 224 es) (h0:es[0]? = some (.int .i64 ec)) (h1:es[1]? = some (.slice (some ⟨g0,0,none⟩) k k)) (hg:Blk w g0 221 (fb L).toArray)
  (hec:0<=ec/\ec<=100) (hL:∀ p∈L,0<=p.1/\p.1<=100/\0<=p.2/\p.2<=1000) :
  Calls Tryz.prog 143 #[.int .i64 n,.slice (some ⟨gc,0,none⟩) m m,.slice (some ⟨ge,0,none⟩) 4 4] w fun e w'=>∃ p,e=.returned (.pointer (some ⟨p,0,none⟩))/\w.heap.size<=p/\Below w.heap.size w w'/\
   Blk w' p 154 #[.int .i64 n,.slice (some ⟨gc,0,none⟩) m m,.slice (some ⟨ge,0,none⟩) 4 4,.int .i64 (oW ec L L.length)]:=by
 have c0:w.cell? ⟨ge,0,none⟩=some (.int .i64 ec):=(he.cell 0).trans h0;have c1:w.cell? ⟨ge,1,none⟩=some (.slice (some ⟨g0,0,none⟩) k k):=(he.cell 1).trans h1;have HG:=Aside0.mk hg;have HE:=Aside0.mk hec;have HL:=Aside0.mk hL;have HK:=Aside0.mk hk;have k1:=EC w ge ec c0;have k2:=ED w ge _ c1;clear hg hec hL hk he h0 h1
 go_enter Tryz.func143,Tryz.ntmps143
 go_wp2_with (first | (go_at_call 158;refine k1.mono ?_;rintro e w' ⟨rfl,rfl⟩) | (go_at_call 159;refine k2.mono ?_;rintro e w' ⟨rfl,rfl⟩))
 clear k1 k2
 go_loopw [7,20] (fun tv v wr=>∃ i:Nat,∃ t:Int,i<=k/\v=.int .i64 (i:Int)/\tv=.int .i64 t/\0<=t/\t<=110000*i/\Aside0 (t=oW ec L i)/\Aside0 (Below w.heap.size w wr)) (fun _ v _=>(k-intOf v).toNat)
 case atStart=>exact⟨0,0,Nat.zero_le _,rfl,rfl,by omega,by omega,⟨rfl⟩,⟨Below.refl _ _⟩⟩
 case round=>
  obtain⟨i,t,hi,rfl,rfl,ht0,ht1,HT,HB⟩:=hrel;by_cases hlt:i<k;rotate_left
  ·have:i=k:=by omega
   subst this
   go_wp2
   go_ret
   refine⟨wr.heap.size,rfl,HB.out.size,ai HB.out _,?_⟩;rw [<- HK.out,<- HT.out];exact Blk.new _ _ _
  have hgr:Blk wr g0 221 (fb L).toArray:=HG.out.below HB.out HG.out.lt;have hat:=tz L i (by have:=HK.out;omega)
  obtain⟨c,d,hcd⟩:∃ c d,L.getD i (0,0)=(c,d):=⟨_,_,rfl⟩;have hmem:L.getD i (0,0)∈L:=by
   have:i<L.length:=by have:=HK.out;omega
   simp [List.getD,List.getElem?_eq_getElem this]
  have hbd:=HL.out _ hmem;rw [hcd] at hat hbd;have hi100:i<100:=by have:=HK.out;omega
  replace hbd:0<=c/\c<=100/\0<=d/\d<=1000:=hbd;obtain⟨e1,e2,e3,e4⟩:=hbd;have d0:wr.cell? ⟨g0,i*2,none⟩=some (.int .i64 c):=(hgr.cell _).trans (by have:=hat.1;rw [Nat.mul_comm] at this;simpa using this)
  have d1:wr.cell? ⟨g0,i*2+1,none⟩=some (.int .i64 d):=(hgr.cell _).trans (by have:=hat.2;rw [Nat.mul_comm] at this;simpa using this)
  obtain⟨he1,he2⟩:=HE.out;have m1:0<=c*(d+ec)/\c*(d+ec)<=110000:=by
   have a1:=Int.mul_nonneg e1 (show 0<=d+ec by omega);have a2:=Int.mul_le_mul e2 (show d+ec<=1100 by omega) (by omega) (by omega);omega
  obtain⟨q,hq⟩:∃ q,c*(d+ec)=q:=⟨_,rfl⟩;rw [hq] at m1;obtain⟨m1,m2⟩:=m1;have w1:wrap64 (d+ec)=d+ec:=by unfold wrap64;omega
  have w2:wrap64 (c*(d+ec))=q:=by rw [hq];unfold wrap64;omega
  have w3:wrap64 (t+q)=t+q:=by unfold wrap64;omega
  have HM:=Aside0.mk hq;have HC:=Aside0.mk hcd;clear hq hcd hmem hat hgr c0 c1
  go_wp2
  go_region_with (first | (go_at_call 160;refine (qS _ c d).mono ?_;rintro e w' ⟨rfl,rfl⟩) | (go_at_call 161;refine (yo _ c d).mono ?_;rintro e w' ⟨rfl,rfl⟩))
  all_goals
   go_wp2
   go_roundw
   case rel=>exact⟨i+1,t+q,by omega,by go_num,by rw [w2,w3],by omega,by omega,⟨by rw [oW,HC.out,<- HT.out,<- HM.out]⟩,⟨by repeat (first | exact HB.out | apply ai | apply au | apply bC)⟩⟩
   case measure=>simp [intOf];omega
theorem EH {P:Program}{ops:Array Oper}{rest:List Oper}{o:Oper}{a:Act}{Q:Exit->Act->World->Prop}{W W':World}(hgd:o.guard=none)(t:TypeId)(len:Nat)(parts:Array (Nat×Operand))(ho:o.op=.buildSlice t len parts)
  (vals:Array (Nat×Value)) (hv:(parts.map fun p=>(p.1,a.eval p.2))=vals) (v:Value) (hrun:(Instr.buildSlice t len vals).run P W=.ok v W') (k:wpList P ops Q rest (a.put o.dst v) W'):wpList P ops Q (o :: rest) a W:=by
 refine wpList_plain hgd fun K hK=>?_
 subst hv;unfold Oper.wp;have e:(execOp a.eval o).run P W=.ok (.value v) W':=by
  unfold execOp;rw [ho];simp only [Sem.run_bind];show Result.andThen ((Instr.buildSlice t len (parts.map fun p=>(p.1,a.eval p.2))).run P W) _=_;rw [hrun];rfl
 rw [e];exact hK _ _ k
theorem EI {P:Program}{ops:Array Oper}{rest:List Oper}{o:Oper}{a:Act}{Q:Exit->Act->World->Prop}{W W':World}(hgd:o.guard=none)(t:TypeId)(parts:Array (Nat×Operand))(ho:o.op=.build t parts)
  (vals:Array (Nat×Value)) (hv:(parts.map fun p=>(p.1,a.eval p.2))=vals) (v:Value) (hrun:(Instr.build t vals).run P W=.ok v W') (k:wpList P ops Q rest (a.put o.dst v) W'):wpList P ops Q (o :: rest) a W:=by
 refine wpList_plain hgd fun K hK=>?_
 subst hv;unfold Oper.wp;have e:(execOp a.eval o).run P W=.ok (.value v) W':=by
  unfold execOp;rw [ho];simp only [Sem.run_bind];show Result.andThen ((Instr.build t (parts.map fun p=>(p.1,a.eval p.2))).run P W) _=_;rw [hrun];rfl
 rw [e];exact hK _ _ k
theorem EJ {P:Program}{ops:Array Oper}{rest:List Oper}{o:Oper}{a:Act}{Q:Exit->Act->World->Prop}{W:World}(hgd:o.guard=none)(x:Operand)(ho:o.op=.assign x)(k:wpList P ops Q rest (a.put o.dst (a.eval x)) W):wpList P ops Q (o :: rest) a W:=by
 refine wpList_plain hgd fun K hK=>?_
 unfold Oper.wp;have e:(execOp a.eval o).run P W=.ok (.value (a.eval x)) W:=by
  unfold execOp;rw [ho];rfl
 rw [e];exact hK _ _ k
theorem EK {P:Program}{ops:Array Oper}{rest:List Oper}{o:Oper}{a:Act}{Q:Exit->Act->World->Prop}{W:World}(hgd:o.guard=none)(x:Operand)(ho:o.op=.move x)(k:wpList P ops Q rest (a.put o.dst (a.eval x)) W):wpList P ops Q (o :: rest) a W:=by
 refine wpList_plain hgd fun K hK=>?_
 unfold Oper.wp;have e:(execOp a.eval o).run P W=.ok (.value (a.eval x)) W:=by
  unfold execOp;rw [ho];rfl
 rw [e];exact hK _ _ k
theorem EL {ops:Array Oper}{rest:List Oper}{o:Oper}{a:Act}{Q:Exit->Act->World->Prop}{W:World}(hgd:o.guard=none)(x:Operand)(n k:Int)(ho:o.op=.binOp .eql 3 x (.const (.int .i64 k)) 3)(hx:a.eval x=.int .i64 n)
  (h:wpList Tryz.prog ops Q rest (a.put o.dst (.bool (n==k))) W):wpList Tryz.prog ops Q (o :: rest) a W:=by
 refine wpList_plain hgd fun K hK=>?_
 unfold Oper.wp;have e:(execOp a.eval o).run Tryz.prog W=.ok (.value (.bool (n==k))) W:=by
  unfold execOp;rw [ho];simp only [hx];have hc:a.eval (.const (.int .i64 k))=.int .i64 k:=rfl;rw [hc]
  first | done | rfl | trace_state
 rw [e];exact hK _ _ h
theorem tA (c d:Int)(W:World):(Instr.build 221 #[(0,.int .i64 c),(1,.int .i64 d)]).run Tryz.prog W=.ok (.agg #[.int .i64 c,.int .i64 d]) W:=by
 first | kernel_rfl | rfl
theorem EN (c d:Int)(W:World):(Instr.buildSlice 222 1 #[(0,.agg #[.int .i64 c,.int .i64 d])]).run Tryz.prog W=.ok (.slice (some ⟨W.heap.size,0,none⟩) 1 1) (W.alloc (.cells #[.int .i64 c,.int .i64 d] 221)):=by
 first | kernel_rfl | rfl
theorem EO (c d e f:Int)(W:World):(Instr.buildSlice 222 2 #[(0,.agg #[.int .i64 c,.int .i64 d]),(1,.agg #[.int .i64 e,.int .i64 f])]).run Tryz.prog W=.ok (.slice (some ⟨W.heap.size,0,none⟩) 2 2) (W.alloc (.cells #[.int .i64 c,.int .i64 d,.int .i64 e,.int .i64 f] 221)):=by
 first | kernel_rfl | rfl
theorem yp (ec:Int)(g m:Nat)(W:World):(Instr.build 224 #[(0,.int .i64 ec),(1,.slice (some ⟨g,0,none⟩) m m)]).run Tryz.prog W=.ok (.agg #[.int .i64 ec,.slice (some ⟨g,0,none⟩) m m]) W:=by
 first | kernel_rfl | rfl
theorem EP (e0 e1 e2 e3:Int)(g0 g1 g2 g3 m0 m1 m2 m3:Nat)(W:World):(Instr.buildSlice 152 4 #[(0,.agg #[.int .i64 e0,.slice (some ⟨g0,0,none⟩) m0 m0]),(1,.agg #[.int .i64 e1,.slice (some ⟨g1,0,none⟩) m1 m1]),(2,.agg #[.int .i64 e2,.slice (some ⟨g2,0,none⟩) m2 m2]),(3,.agg #[.int .i64 e3,.slice (some ⟨g3,0,none⟩) m3 m3])]).run Tryz.prog W=.ok (.slice (some ⟨W.heap.size,0,none⟩) 4 4)
  (W.alloc (.cells #[.int .i64 e0,.slice (some ⟨g0,0,none⟩) m0 m0,.int .i64 e1,.slice (some ⟨g1,0,none⟩) m1 m1,.int .i64 e2,.slice (some ⟨g2,0,none⟩) m2 m2,.int .i64 e3,.slice (some ⟨g3,0,none⟩) m3 m3] 224)):=by
 first | kernel_rfl | rfl
abbrev eo:=List Int×List (Int×List (Int×Int))
def i9:List eo :=
 [([],[(7,[(1,19)]),(10,[(1,16)]),(13,[(1,13)]),(17,[(1,9)])]),
  ([6,18],[(10,[(1,34)]),(16,[(1,28)]),(22,[(1,22)]),(28,[(1,16)])]),
  ([6,22],[(15,[(1,55)]),(26,[(1,44)]),(18,[(2,17)]),(22,[(2,13)])]),
  ([6,26],[(20,[(1,80)]),(18,[(2,32)]),(26,[(2,24)]),(16,[(4,9)])]),
  ([6,30],[(26,[(1,108)]),(24,[(2,43)]),(18,[(2,15),(2,16)]),(22,[(2,11),(2,12)])]),
  ([6,34],[(18,[(2,68)]),(16,[(4,27)]),(24,[(4,19)]),(28,[(4,15)])]),
  ([6,22,38],[(20,[(2,78)]),(18,[(4,31)]),(18,[(2,14),(4,15)]),(26,[(4,13),(1,14)])]),
  ([6,24,42],[(24,[(2,97)]),(22,[(2,38),(2,39)]),(22,[(4,18),(2,19)]),(26,[(4,14),(2,15)])]),
  ([6,26,46],[(30,[(2,116)]),(22,[(3,36),(2,37)]),(20,[(4,16),(4,17)]),(24,[(4,12),(4,13)])]),
  ([6,28,50],[(18,[(2,68),(2,69)]),(26,[(4,43),(1,44)]),(24,[(6,19),(2,20)]),(28,[(6,15),(2,16)])]),
  ([6,30,54],[(20,[(4,81)]),(30,[(1,50),(4,51)]),(28,[(4,22),(4,23)]),(24,[(3,12),(8,13)])]),
  ([6,32,58],[(24,[(2,92),(2,93)]),(22,[(6,36),(2,37)]),(26,[(4,20),(6,21)]),(28,[(7,14),(4,15)])]),
  ([6,34,62],[(26,[(4,107)]),(22,[(8,37),(1,38)]),(24,[(8,20),(4,21)]),(22,[(12,11),(4,12)])]),
  ([6,26,46,66],[(30,[(3,115),(1,116)]),(24,[(4,40),(5,41)]),(20,[(11,16),(5,17)]),(24,[(11,12),(5,13)])]),
  ([6,26,48,70],[(22,[(5,87),(1,88)]),(24,[(5,41),(5,42)]),(30,[(5,24),(7,25)]),(24,[(11,12),(7,13)])]),
  ([6,26,50,74],[(24,[(5,98),(1,99)]),(28,[(7,45),(3,46)]),(24,[(15,19),(2,20)]),(30,[(3,15),(13,16)])]),
  ([6,30,54,78],[(28,[(1,107),(5,108)]),(28,[(10,46),(1,47)]),(28,[(1,22),(15,23)]),(28,[(2,14),(17,15)])]),
  ([6,30,56,82],[(30,[(5,120),(1,121)]),(26,[(9,43),(4,44)]),(28,[(17,22),(1,23)]),(28,[(2,14),(19,15)])]),
  ([6,30,58,86],[(28,[(3,113),(4,114)]),(26,[(3,44),(11,45)]),(26,[(17,21),(4,22)]),(26,[(9,13),(16,14)])]),
  ([6,34,62,90],[(28,[(3,107),(5,108)]),(26,[(3,41),(13,42)]),(30,[(15,24),(5,25)]),(28,[(15,15),(10,16)])]),
  ([6,28,50,72,94],[(28,[(4,116),(4,117)]),(26,[(17,42)]),(28,[(17,22),(6,23)]),(30,[(19,16),(6,17)])]),
  ([6,26,50,74,98],[(28,[(2,111),(7,112)]),(28,[(17,46)]),(30,[(7,24),(16,25)]),(24,[(34,13)])]),
  ([6,30,54,78,102],[(30,[(4,121),(5,122)]),(28,[(4,47),(14,48)]),(30,[(11,24),(14,25)]),(30,[(16,15),(14,16)])]),
  ([6,28,54,80,106],[(30,[(6,117),(4,118)]),(28,[(6,45),(14,46)]),(30,[(11,24),(16,25)]),(30,[(30,16),(2,17)])]),
  ([6,32,58,84,110],[(26,[(8,106),(4,107)]),(28,[(8,47),(13,48)]),(30,[(7,24),(22,25)]),(30,[(22,15),(13,16)])]),
  ([6,30,58,86,114],[(28,[(10,114),(2,115)]),(28,[(19,46),(4,47)]),(28,[(28,22),(6,23)]),(30,[(33,16),(4,17)])]),
  ([6,34,62,90,118],[(30,[(8,122),(4,123)]),(28,[(22,45),(3,46)]),(30,[(8,23),(26,24)]),(30,[(12,15),(28,16)])]),
  ([6,26,50,74,98,122],[(30,[(3,117),(10,118)]),(28,[(3,45),(23,46)]),(30,[(4,24),(31,25)]),(30,[(11,15),(31,16)])]),
  ([6,30,54,78,102,126],[(30,[(7,116),(7,117)]),(28,[(21,45),(7,46)]),(30,[(1,23),(37,24)]),(30,[(19,15),(26,16)])]),
  ([6,26,52,78,104,130],[(30,[(5,115),(10,116)]),(28,[(19,47),(10,48)]),(30,[(15,24),(25,25)]),(30,[(23,15),(25,16)])]),
  ([6,30,56,82,108,134],[(30,[(13,115),(3,116)]),(28,[(2,46),(29,47)]),(30,[(42,24),(1,25)]),(30,[(23,15),(28,16)])]),
  ([6,34,60,86,112,138],[(30,[(17,115)]),(28,[(10,46),(23,47)]),(30,[(10,24),(35,25)]),(30,[(19,15),(35,16)])]),
  ([6,30,58,86,114,142],[(30,[(17,115),(1,116)]),(28,[(14,46),(21,47)]),(30,[(29,24),(19,25)]),(30,[(11,15),(46,16)])]),
  ([6,34,62,90,118,146],[(30,[(13,115),(6,116)]),(28,[(14,46),(23,47)]),(30,[(44,24),(7,25)]),(30,[(59,16),(1,17)])]),
  ([6,30,54,78,102,126,150],[(30,[(12,121),(7,122)]),(28,[(12,47),(26,48)]),(30,[(39,24),(14,25)]),(30,[(22,15),(41,16)])]),
  ([6,24,50,76,102,128,154],[(30,[(6,121),(14,122)]),(28,[(6,47),(34,48)]),(30,[(46,24),(10,25)]),(30,[(2,15),(64,16)])]),
  ([6,28,54,80,106,132,158],[(30,[(17,122),(4,123)]),(28,[(29,46),(14,47)]),(30,[(49,24),(10,25)]),(30,[(24,15),(46,16)])]),
  ([6,32,58,84,110,136,162],[(30,[(4,122),(18,123)]),(28,[(13,46),(32,47)]),(30,[(48,24),(14,25)]),(30,[(42,15),(32,16)])]),
  ([6,26,54,82,110,138,166],[(30,[(20,117),(4,118)]),(28,[(40,47),(7,48)]),(30,[(43,24),(22,25)]),(30,[(10,15),(67,16)])]),
  ([6,30,58,86,114,142,170],[(30,[(19,118),(6,119)]),(28,[(18,47),(31,48)]),(30,[(34,24),(34,25)]),(30,[(20,15),(61,16)])])]
abbrev iE:=Op×Option Tmp×Option (Nat×Bool)
def keyOf (o:Oper):iE:=(o.op,o.dst,o.guard)
def ci (n:Int):Operand:=.const (.int .i64 n)
def yq:List (Int×Int)->Nat->List iE
 | [],_=>[]
 | p :: L,i=>(.build 221 #[(0,ci p.1),(1,ci p.2)],some i,none) :: yq L (i+1)
def qT (i m:Nat):Array (Nat×Operand):=((List.range m).map fun j=>(j,Operand.tmp (i+j))).toArray
def nn (b:Int×List (Int×Int))(i:Nat):List iE :=
 yq b.2 i++[(.buildSlice 222 b.2.length (qT i b.2.length),some (i+b.2.length),none),(.build 224 #[(0,ci b.1),(1,.tmp (i+b.2.length))],some (i+b.2.length+1),none)]
def tB:List (Int×List (Int×Int))->Nat->List iE
 | [],_=>[]
 | b :: L,i=>nn b i++tB L (i+b.2.length+2)
def fs:List (Int×List (Int×Int))->Nat->Nat
 | [],i=>i
 | b :: L,i=>fs L (i+b.2.length+2)
def tC:List (Int×List (Int×Int))->Nat->List Operand
 | [],_=>[]
 | b :: L,i=>.tmp (i+b.2.length+1) :: tC L (i+b.2.length+2)
def np {α:Type}(L:List α):Array (Nat×α):=(L.zipIdx.map fun p=>(p.2,p.1)).toArray
def oX (n:Nat)(v:eo)(i:Nat):List iE :=
 (.buildSlice 93 v.1.length (np (v.1.map ci)),some i,none) :: (tB v.2 (i+1) ++
  [(.buildSlice 152 4 (np (tC v.2 (i+1))),some (fs v.2 (i+1)),none),
   (.call { callee:=.value (.func 143),args:=#[ci n,.tmp i,.tmp (fs v.2 (i+1))],argTypes:=#[3,93,152] },some (fs v.2 (i+1)+1),none),
   (.assign (.tmp (fs v.2 (i+1)+1)),some 2,none)])
abbrev qU:=List iE×Operand×List iE
def qV:Nat->Nat->List eo->List qU
 | _,_,[]=>[]
 | n,s,v :: L=>([(.binOp .eql 3 (.tmp 3) (ci n) 3,some (s+1),none),(.assign (.tmp (s+1)),some s,none)],.tmp s,oX n v (s+2)) :: qV (n+1) (fs v.2 (s+3)+2) L
def nt:Nat->Code->List qU
 | 0,_=>[]
 | f+1,.seq (.region _ ops false) (.cond c (.seq (.region _ body false) .ret) rest)=>(ops.toList.map keyOf,c,body.toList.map keyOf) :: nt f rest
 | _,_=>[]
def yt (f:Func):Code:=match f.body with
 | some (.seq _ (.seq (.seq _ (.block _ c)) _))=>c
 | _=>.skip
def lP (f:Func):Code:=match f.body with
 | some (.seq a _)=>a
 | _=>.skip
def qW (f:Func):Code:=match f.body with
 | some (.seq _ (.seq (.seq a _) _))=>a
 | _=>.skip
def EQ (f:Func):Code:=match f.body with
 | some (.seq _ (.seq _ c))=>c
 | _=>.skip
theorem ER:Tryz.f104.body=some (.seq (lP Tryz.f104) (.seq (.seq (qW Tryz.f104) (.block 0 (yt Tryz.f104))) (EQ Tryz.f104))):=by kernel_rfl
def nu:Code->Array Oper
 | .region _ ops _=>ops
 | _=>#[]
theorem ES:lP Tryz.f104=.region 0 (nu (lP Tryz.f104)) false/\(nu (lP Tryz.f104)).toList.map keyOf=[(.assign (.const (.pointer none)),some 2,none)]:=⟨by kernel_rfl,by kernel_rfl⟩
theorem ET:qW Tryz.f104=.region 1 (nu (qW Tryz.f104)) false/\(nu (qW Tryz.f104)).toList.map keyOf=[(.move (.tmp 0),some 3,none)]:=⟨by kernel_rfl,by kernel_rfl⟩
set_option maxRecDepth 100000 in
theorem EU:nt 40 (yt Tryz.f104)=qV 1 4 i9:=by kernel_rfl
def WK (ops:Array Oper)(Q:Exit->Act->World->Prop)(keys:List iE)(a:Act)(W:World):Prop:=∀ l:List Oper,l.map keyOf=keys->wpList Tryz.prog ops Q l a W
section
variable {ops:Array Oper} {Q:Exit->Act->World->Prop} {ks:List iE} {a:Act} {W W':World}
theorem nv {k:iE}(h:∀ (o:Oper) (l:List Oper),o.op=k.1->o.dst=k.2.1->o.guard=k.2.2->l.map keyOf=ks->wpList Tryz.prog ops Q (o :: l) a W):WK ops Q (k :: ks) a W:=by
 intro l hl;cases l with
 | nil=>cases hl
 | cons o l=>
  rw [List.map_cons] at hl;injection hl with h1 h2;subst h1;exact h o l rfl rfl rfl h2
theorem nw (h:Q .normal a W):WK ops Q [] a W:=by
 intro l hl;cases l with
 | nil=>exact h
 | cons o l=>cases hl
theorem oY (t:TypeId)(parts:Array (Nat×Operand))(d:Nat)(vals:Array (Nat×Value))(hv:(parts.map fun p=>(p.1,a.eval p.2))=vals)(v:Value)(hrun:(Instr.build t vals).run Tryz.prog W=.ok v W')
  (k:WK ops Q ks (a.put (some d) v) W'):WK ops Q ((.build t parts,some d,none) :: ks) a W :=
 nv fun o l h1 h2 h3 h4=>EI h3 t parts h1 vals hv v hrun (by rw [h2];exact k l h4)
theorem nz (t:TypeId)(n:Nat)(parts:Array (Nat×Operand))(d:Nat)(vals:Array (Nat×Value))(hv:(parts.map fun p=>(p.1,a.eval p.2))=vals)(v:Value)(hrun:(Instr.buildSlice t n vals).run Tryz.prog W=.ok v W')
  (k:WK ops Q ks (a.put (some d) v) W'):WK ops Q ((.buildSlice t n parts,some d,none) :: ks) a W :=
 nv fun o l h1 h2 h3 h4=>EH h3 t n parts h1 vals hv v hrun (by rw [h2];exact k l h4)
theorem oZ (x:Operand)(d:Nat)(k:WK ops Q ks (a.put (some d) (a.eval x)) W):WK ops Q ((.assign x,some d,none) :: ks) a W :=
 nv fun o l h1 h2 h3 h4=>EJ h3 x h1 (by rw [h2];exact k l h4)
theorem EV (x:Operand)(d:Nat)(k:WK ops Q ks (a.put (some d) (a.eval x)) W):WK ops Q ((.move x,some d,none) :: ks) a W :=
 nv fun o l h1 h2 h3 h4=>EK h3 x h1 (by rw [h2];exact k l h4)
theorem EW (x:Operand)(n c:Int)(d:Nat)(hx:a.eval x=.int .i64 n)(k:WK ops Q ks (a.put (some d) (.bool (n==c))) W):WK ops Q ((.binOp .eql 3 x (ci c) 3,some d,none) :: ks) a W :=
 nv fun o l h1 h2 h3 h4=>EL h3 x n c h1 hx (by rw [h2];exact k l h4)
theorem EX (op:Op)(d:Nat)(f:FuncId)(args:Array Value)(hrun:∀ o:Oper,o.op=op->(execOp a.eval o).run Tryz.prog W=.ok (.enter f args) W)(R:Ending->World->Prop)(hc:Calls Tryz.prog f args W R)
  (k:∀ e W',R e W'->∃ v,e=.returned v/\WK ops Q ks (a.put (some d) v) W'):WK ops Q ((op,some d,none) :: ks) a W :=
 nv fun o l h1 h2 h3 h4=>wpList_plain h3 fun K hK=>by
  unfold Oper.wp;rw [hrun o h1,Oper.upon_enter];refine hc.mono fun e w'' hh=>?_
  obtain⟨v,rfl,hw⟩:=k e w'' hh;refine hK _ _ ?_;rw [h2];exact hw l h4
end
structure fu (a a':Act)(i:Nat):Prop where
 size:a'.tmps.size=a.tmps.size
 defers:a'.defers=a.defers
 same:∀ j,j<i->a'.eval (.tmp j)=a.eval (.tmp j)
theorem fu.refl (a:Act)(i:Nat):fu a a i:=⟨rfl,rfl,fun _ _=>rfl⟩
theorem fu.put {a a':Act}{i:Nat}(h:fu a a' i)(d:Nat)(v:Value)(hd:i<=d):fu a (a'.put (some d) v) i :=
 ⟨by rw [Act.size_put,h.size],by rw [Act.defers_put',h.defers],fun j hj=>by rw [Act.eval_put_ne _ _ _ _ (by omega),h.same j hj]⟩
theorem fu.trans {a b c:Act}{i j:Nat}(h:fu a b i)(k:fu b c j)(hij:i<=j):fu a c i:=⟨k.size.trans h.size,k.defers.trans h.defers,fun n hn=>(k.same n (by omega)).trans (h.same n hn)⟩
theorem fu.mono {a b:Act}{i j:Nat}(h:fu a b j)(hij:i<=j):fu a b i:=⟨h.size,h.defers,fun n hn=>h.same n (by omega)⟩
section
variable {ops:Array Oper} {Q:Exit->Act->World->Prop} {ks:List iE} {a:Act} {W W':World}
set_option maxRecDepth 100000 in
theorem qZ (b:Int×List (Int×Int))(i:Nat)(hb:b.2.length=1\/b.2.length=2)(hs:i+b.2.length+1<a.tmps.size)
  (k:∀ a',fu a a' i->a'.eval (.tmp (i+b.2.length+1))=.agg #[.int .i64 b.1,.slice (some ⟨W.heap.size,0,none⟩) b.2.length b.2.length]->WK ops Q ks a' (W.alloc (.cells (fb b.2).toArray 221))) :
  WK ops Q (nn b i++ks) a W:=by
 obtain⟨ec,L⟩:=b
 match L,hb,hs,k with
 | [(c,d)],_,hs,k=>
  have hs:i+2<a.tmps.size:=hs;refine oY 221 #[(0,ci c),(1,ci d)] i #[(0,.int .i64 c),(1,.int .i64 d)] (by kernel_rfl) _ (tA c d W) ?_;refine nz 222 1 #[(0,.tmp i)] (i+1) #[(0,.agg #[.int .i64 c,.int .i64 d])] ?_ _ (EN c d W) ?_
  ·rw [show (#[(0,Operand.tmp i)]:Array (Nat×Operand)).map (fun p=>(p.1,(a.put (some i) (.agg #[.int .i64 c,.int .i64 d])).eval p.2))=#[(0,(a.put (some i) (.agg #[.int .i64 c,.int .i64 d])).eval (.tmp i))] from by kernel_rfl,Act.eval_put_same _ _ _ (by omega)]
  refine oY 224 #[(0,ci ec),(1,.tmp (i+1))] (i+1+1) #[(0,.int .i64 ec),(1,.slice (some ⟨W.heap.size,0,none⟩) 1 1)] ?_ _ (yp ec W.heap.size 1 _) ?_
  ·rw [show ∀ A:Act,(#[(0,ci ec),(1,Operand.tmp (i+1))]:Array (Nat×Operand)).map (fun p=>(p.1,A.eval p.2))=#[(0,.int .i64 ec),(1,A.eval (.tmp (i+1)))] from fun _=>by kernel_rfl,Act.eval_put_same _ _ _ (by rw [Act.size_put];omega)]
  refine k _ ((((fu.refl a i).put i _ (by omega)).put (i+1) _ (by omega)).put (i+1+1) _ (by omega)) ?_;exact Act.eval_put_same _ _ _ (by rw [Act.size_put,Act.size_put];omega)
 | [(c,d),(e,f)],_,hs,k=>
  have hs:i+3<a.tmps.size:=hs;refine oY 221 #[(0,ci c),(1,ci d)] i #[(0,.int .i64 c),(1,.int .i64 d)] (by kernel_rfl) _ (tA c d W) ?_;refine oY 221 #[(0,ci e),(1,ci f)] (i+1) #[(0,.int .i64 e),(1,.int .i64 f)] (by kernel_rfl) _ (tA e f W) ?_;refine nz 222 2 #[(0,.tmp i),(1,.tmp (i+1))] (i+2) #[(0,.agg #[.int .i64 c,.int .i64 d]),(1,.agg #[.int .i64 e,.int .i64 f])] ?_ _ (EO c d e f W) ?_
  ·rw [show ∀ A:Act,(#[(0,Operand.tmp i),(1,Operand.tmp (i+1))]:Array (Nat×Operand)).map (fun p=>(p.1,A.eval p.2))=#[(0,A.eval (.tmp i)),(1,A.eval (.tmp (i+1)))] from fun _=>by kernel_rfl,Act.eval_put_same _ _ _ (by rw [Act.size_put];omega),Act.eval_put_ne _ _ _ _ (by omega),Act.eval_put_same _ _ _ (by omega)]
  refine oY 224 #[(0,ci ec),(1,.tmp (i+2))] (i+2+1) #[(0,.int .i64 ec),(1,.slice (some ⟨W.heap.size,0,none⟩) 2 2)] ?_ _ (yp ec W.heap.size 2 _) ?_
  ·rw [show ∀ A:Act,(#[(0,ci ec),(1,Operand.tmp (i+2))]:Array (Nat×Operand)).map (fun p=>(p.1,A.eval p.2))=#[(0,.int .i64 ec),(1,A.eval (.tmp (i+2)))] from fun _=>by kernel_rfl,Act.eval_put_same _ _ _ (by rw [Act.size_put,Act.size_put];omega)]
  refine k _ (((((fu.refl a i).put i _ (by omega)).put (i+1) _ (by omega)).put (i+2) _ (by omega)).put (i+2+1) _ (by omega)) ?_;exact Act.eval_put_same _ _ _ (by rw [Act.size_put,Act.size_put,Act.size_put];omega)
end
def tD (v:eo)(g:Nat->Nat):Array Value:=match v.2 with
 | [b0,b1,b2,b3]=>#[.int .i64 b0.1,.slice (some ⟨g 0,0,none⟩) b0.2.length b0.2.length,.int .i64 b1.1,.slice (some ⟨g 1,0,none⟩) b1.2.length b1.2.length,
   .int .i64 b2.1,.slice (some ⟨g 2,0,none⟩) b2.2.length b2.2.length,.int .i64 b3.1,.slice (some ⟨g 3,0,none⟩) b3.2.length b3.2.length]
 | _=>#[]
def nA (v:eo):Int:=oW (v.2.getD 0 (0,[])).1 (v.2.getD 0 (0,[])).2 (v.2.getD 0 (0,[])).2.length
def bT (w:World)(p:Nat)(n:Int)(v:eo):Prop:=∃ gc ge:Nat,∃ g:Nat->Nat,
 Blk w p 154 #[.int .i64 n,.slice (some ⟨gc,0,none⟩) v.1.length v.1.length,.slice (some ⟨ge,0,none⟩) 4 4,.int .i64 (nA v)]/\Blk w gc 3 (ac .i64 v.1).toArray/\Blk w ge 224 (tD v g)/\
 ∀ l,l<4->Blk w (g l) 221 (fb (v.2.getD l (0,[])).2).toArray
theorem bT.below {w w':World}{p B:Nat}{n:Int}{v:eo}(h:bT w p n v)(hb:Below B w w')(hB:w.heap.size<=B):bT w' p n v:=by
 obtain⟨gc,ge,g,h1,h2,h3,h4⟩:=h;exact⟨gc,ge,g,h1.below hb (by have:=h1.lt;omega),h2.below hb (by have:=h2.lt;omega),h3.below hb (by have:=h3.lt;omega),fun l hl=>(h4 l hl).below hb (by have:=(h4 l hl).lt;omega)⟩
structure q8 (v:eo):Prop where
 four:v.2.length=4
 cents:v.1.length<=7
 grp:∀ b∈v.2,b.2.length=1\/b.2.length=2
 ec:∀ b∈v.2,0<=b.1/\b.1<=100
 lim:∀ b∈v.2,∀ q∈b.2,0<=q.1/\q.1<=100/\0<=q.2/\q.2<=1000
theorem yu:∀ v∈i9,q8 v:=by
 have h:∀ v∈i9,v.2.length=4/\v.1.length<=7/\(∀ b∈v.2,b.2.length=1\/b.2.length=2)/\(∀ b∈v.2,0<=b.1/\b.1<=100)/\(∀ b∈v.2,∀ q∈b.2,0<=q.1/\q.1<=100/\0<=q.2/\q.2<=1000):=by decide +kernel
 intro v hv;obtain⟨h1,h2,h3,h4,h5⟩:=h v hv;exact⟨h1,h2,h3,h4,h5⟩
def tE (L:List Int):Array (Nat×Value):=np (L.map fun n=>Value.int .i64 n)
theorem EY:∀ (cs:List Int) (hl:cs.length<=7) (W:World),(Instr.buildSlice 93 cs.length (tE cs)).run Tryz.prog W=.ok (.slice (some ⟨W.heap.size,0,none⟩) cs.length cs.length) (W.alloc (.cells (ac .i64 cs).toArray 3))
 | [],_,W=>by kernel_rfl
 | [a],_,W=>by kernel_rfl
 | [a,b],_,W=>by kernel_rfl
 | [a,b,c],_,W=>by kernel_rfl
 | [a,b,c,d],_,W=>by kernel_rfl
 | [a,b,c,d,e],_,W=>by kernel_rfl
 | [a,b,c,d,e,f],_,W=>by kernel_rfl
 | [a,b,c,d,e,f,g],_,W=>by kernel_rfl
 | _ :: _ :: _ :: _ :: _ :: _ :: _ :: _ :: _,h,_=>by simp at h
theorem EZ:∀ (cs:List Int) (hl:cs.length<=7) (A:Act),((np (cs.map ci)).map fun p=>(p.1,A.eval p.2))=tE cs
 | [],_,A=>by kernel_rfl
 | [a],_,A=>by kernel_rfl
 | [a,b],_,A=>by kernel_rfl
 | [a,b,c],_,A=>by kernel_rfl
 | [a,b,c,d],_,A=>by kernel_rfl
 | [a,b,c,d,e],_,A=>by kernel_rfl
 | [a,b,c,d,e,f],_,A=>by kernel_rfl
 | [a,b,c,d,e,f,g],_,A=>by kernel_rfl
 | _ :: _ :: _ :: _ :: _ :: _ :: _ :: _ :: _,h,_=>by simp at h
section
variable {ops:Array Oper} {Q:Exit->Act->World->Prop} {a:Act} {W:World}
theorem E0 (A:Act)(n:Int)(i e:Nat)(x y:Value)(hx:A.eval (.tmp i)=x)(hy:A.eval (.tmp e)=y)(W:World)(o:Oper)(ho:o.op=.call { callee:=.value (.func 143),args:=#[ci n,.tmp i,.tmp e],argTypes:=#[3,93,152] }) :
  (execOp A.eval o).run Tryz.prog W=.ok (.enter 143 #[.int .i64 n,x,y]) W:=by
 subst hx hy;unfold execOp;rw [ho]
 kernel_rfl
set_option maxRecDepth 100000 in
theorem E1 (n:Nat)(v:eo)(i:Nat)(ok:q8 v)(h2:2<i)(hs:fs v.2 (i+1)+1<a.tmps.size)
  (k:∀ a' W' p,a'.tmps.size=a.tmps.size->a'.defers=a.defers->a'.eval (.tmp 2)=.pointer (some ⟨p,0,none⟩)->W.heap.size<=p->bT W' p (n:Int) v->Below W.heap.size W W'->Q .normal a' W'):WK ops Q (oX n v i) a W:=by
 obtain⟨cs,bs⟩:=v;obtain⟨b0,b1,b2,b3,rfl⟩:∃ b0 b1 b2 b3,bs=[b0,b1,b2,b3]:=by
  match bs,ok.four with
  | [b0,b1,b2,b3],_=>exact⟨b0,b1,b2,b3,rfl⟩
 have g0:=ok.grp b0 (by simp);have g1:=ok.grp b1 (by simp);have g2:=ok.grp b2 (by simp);have g3:=ok.grp b3 (by simp);have hcs:cs.length<=7:=ok.cents;have hec:=ok.ec b0 (by simp);have hlim:=ok.lim b0 (by simp);obtain⟨i1,e1⟩:∃ i1,i1=i+1+b0.2.length+2:=⟨_,rfl⟩;obtain⟨i2,e2⟩:∃ i2,i2=i1+b1.2.length+2:=⟨_,rfl⟩;obtain⟨i3,e3⟩:∃ i3,i3=i2+b2.2.length+2:=⟨_,rfl⟩;obtain⟨i4,e4⟩:∃ i4,i4=i3+b3.2.length+2:=⟨_,rfl⟩;have hend:fs [b0,b1,b2,b3] (i+1)=i4:=by rw [fs,fs,fs,fs,fs,e4,e3,e2,e1]
 have hs:i4+1<a.tmps.size:=by rw [<- hend];exact hs
 have hkeys:oX n (cs,[b0,b1,b2,b3]) i=(.buildSlice 93 cs.length (np (cs.map ci)),some i,none) :: (nn b0 (i+1)++(nn b1 i1++(nn b2 i2++(nn b3 i3 ++
   [(.buildSlice 152 4 #[(0,.tmp (i+1+b0.2.length+1)),(1,.tmp (i1+b1.2.length+1)),(2,.tmp (i2+b2.2.length+1)),(3,.tmp (i3+b3.2.length+1))],some i4,none),
    (.call { callee:=.value (.func 143),args:=#[ci n,.tmp i,.tmp i4],argTypes:=#[3,93,152] },some (i4+1),none),(.assign (.tmp (i4+1)),some 2,none)])))):=by
  unfold oX;simp only [hend,tB,List.append_assoc,List.nil_append,<- e1,<- e2,<- e3,<- e4];rw [show np (tC [b0,b1,b2,b3] (i+1))=#[(0,Operand.tmp (i+1+b0.2.length+1)),(1,.tmp (i+1+b0.2.length+2+b1.2.length+1)),(2,.tmp (i+1+b0.2.length+2+b1.2.length+2+b2.2.length+1)),(3,.tmp (i+1+b0.2.length+2+b1.2.length+2+b2.2.length+2+b3.2.length+1))] from by kernel_rfl,<- e1,<- e2,<- e3]
 rw [hkeys];refine nz 93 cs.length _ i (tE cs) (EZ cs hcs _) _ (EY cs hcs W) ?_;obtain⟨a0,ha0⟩:∃ a0,a0=a.put (some i) (.slice (some ⟨W.heap.size,0,none⟩) cs.length cs.length):=⟨_,rfl⟩;have s0:a0.tmps.size=a.tmps.size:=by rw [ha0,Act.size_put]
 have d0:a0.defers=a.defers:=by rw [ha0,Act.defers_put']
 have v0:a0.eval (.tmp i)=.slice (some ⟨W.heap.size,0,none⟩) cs.length cs.length:=by rw [ha0];exact Act.eval_put_same _ _ _ (by omega)
 rw [<- ha0];obtain⟨W0,hW0⟩:∃ W0,W0=W.alloc (.cells (ac .i64 cs).toArray 3):=⟨_,rfl⟩;rw [<- hW0];refine qZ b0 (i+1) g0 (by omega) fun a1 x1 u1=>?_
 obtain⟨W1,hW1⟩:∃ W1,W1=W0.alloc (.cells (fb b0.2).toArray 221):=⟨_,rfl⟩;rw [<- hW1];refine qZ b1 i1 g1 (by rw [x1.size];omega) fun a2 x2 u2=>?_
 obtain⟨W2,hW2⟩:∃ W2,W2=W1.alloc (.cells (fb b1.2).toArray 221):=⟨_,rfl⟩;rw [<- hW2];refine qZ b2 i2 g2 (by rw [x2.size,x1.size];omega) fun a3 x3 u3=>?_
 obtain⟨W3,hW3⟩:∃ W3,W3=W2.alloc (.cells (fb b2.2).toArray 221):=⟨_,rfl⟩;rw [<- hW3];refine qZ b3 i3 g3 (by rw [x3.size,x2.size,x1.size];omega) fun a4 x4 u4=>?_
 obtain⟨W4,hW4⟩:∃ W4,W4=W3.alloc (.cells (fb b3.2).toArray 221):=⟨_,rfl⟩;rw [<- hW4];have t0:a4.eval (.tmp (i+1+b0.2.length+1))=.agg #[.int .i64 b0.1,.slice (some ⟨W0.heap.size,0,none⟩) b0.2.length b0.2.length]:=by
  rw [x4.same _ (by omega),x3.same _ (by omega),x2.same _ (by omega),u1]
 have t1:a4.eval (.tmp (i1+b1.2.length+1))=.agg #[.int .i64 b1.1,.slice (some ⟨W1.heap.size,0,none⟩) b1.2.length b1.2.length]:=by
  rw [x4.same _ (by omega),x3.same _ (by omega),u2]
 have t2:a4.eval (.tmp (i2+b2.2.length+1))=.agg #[.int .i64 b2.1,.slice (some ⟨W2.heap.size,0,none⟩) b2.2.length b2.2.length]:=by
  rw [x4.same _ (by omega),u3]
 have ti:a4.eval (.tmp i)=.slice (some ⟨W.heap.size,0,none⟩) cs.length cs.length:=by
  rw [x4.same _ (by omega),x3.same _ (by omega),x2.same _ (by omega),x1.same _ (by omega),v0]
 have sz:a4.tmps.size=a.tmps.size:=by rw [x4.size,x3.size,x2.size,x1.size,s0]
 have df:a4.defers=a.defers:=by rw [x4.defers,x3.defers,x2.defers,x1.defers,d0]
 refine nz 152 4 _ i4 #[(0,.agg #[.int .i64 b0.1,.slice (some ⟨W0.heap.size,0,none⟩) b0.2.length b0.2.length]),(1,.agg #[.int .i64 b1.1,.slice (some ⟨W1.heap.size,0,none⟩) b1.2.length b1.2.length]),(2,.agg #[.int .i64 b2.1,.slice (some ⟨W2.heap.size,0,none⟩) b2.2.length b2.2.length]),(3,.agg #[.int .i64 b3.1,.slice (some ⟨W3.heap.size,0,none⟩) b3.2.length b3.2.length])] ?_ _ (EP _ _ _ _ _ _ _ _ _ _ _ _ W4) ?_
 ·rw [show ∀ (A:Act) (q0 q1 q2 q3:Nat),(#[(0,Operand.tmp q0),(1,Operand.tmp q1),(2,Operand.tmp q2),(3,Operand.tmp q3)]:Array (Nat×Operand)).map (fun p=>(p.1,A.eval p.2))=#[(0,A.eval (.tmp q0)),(1,A.eval (.tmp q1)),(2,A.eval (.tmp q2)),(3,A.eval (.tmp q3))] from fun _ _ _ _ _=>by kernel_rfl,t0,t1,t2,u4]
 obtain⟨W5,hW5⟩:∃ W5,W5=W4.alloc (.cells #[.int .i64 b0.1,.slice (some ⟨W0.heap.size,0,none⟩) b0.2.length b0.2.length,.int .i64 b1.1,.slice (some ⟨W1.heap.size,0,none⟩) b1.2.length b1.2.length,.int .i64 b2.1,.slice (some ⟨W2.heap.size,0,none⟩) b2.2.length b2.2.length,.int .i64 b3.1,.slice (some ⟨W3.heap.size,0,none⟩) b3.2.length b3.2.length] 224):=⟨_,rfl⟩;rw [<- hW5];have k0:Blk W5 W.heap.size 3 (ac .i64 cs).toArray:=by
  rw [hW5,hW4,hW3,hW2,hW1,hW0];exact (((((Blk.new W 3 _).alloc _).alloc _).alloc _).alloc _).alloc _
 have k1:Blk W5 W0.heap.size 221 (fb b0.2).toArray:=by
  rw [hW5,hW4,hW3,hW2,hW1];exact ((((Blk.new W0 221 _).alloc _).alloc _).alloc _).alloc _
 have k2:Blk W5 W1.heap.size 221 (fb b1.2).toArray:=by
  rw [hW5,hW4,hW3,hW2];exact (((Blk.new W1 221 _).alloc _).alloc _).alloc _
 have k3:Blk W5 W2.heap.size 221 (fb b2.2).toArray:=by
  rw [hW5,hW4,hW3];exact ((Blk.new W2 221 _).alloc _).alloc _
 have k4:Blk W5 W3.heap.size 221 (fb b3.2).toArray:=by
  rw [hW5,hW4];exact (Blk.new W3 221 _).alloc _
 have k5:Blk W5 W4.heap.size 224 #[.int .i64 b0.1,.slice (some ⟨W0.heap.size,0,none⟩) b0.2.length b0.2.length,.int .i64 b1.1,.slice (some ⟨W1.heap.size,0,none⟩) b1.2.length b1.2.length,.int .i64 b2.1,.slice (some ⟨W2.heap.size,0,none⟩) b2.2.length b2.2.length,.int .i64 b3.1,.slice (some ⟨W3.heap.size,0,none⟩) b3.2.length b3.2.length]:=by
  rw [hW5];exact Blk.new W4 224 _
 have hb5:Below W.heap.size W W5:=by
  rw [hW5,hW4,hW3,hW2,hW1,hW0]
  repeat (first | exact Below.refl _ _ | apply ai)
 have hc:=EG W5 (n:Int) b0.1 W.heap.size cs.length W4.heap.size W0.heap.size b0.2.length _ b0.2 rfl (by omega) k5 rfl rfl k1 hec hlim;refine EX _ (i4+1) 143 #[.int .i64 (n:Int),.slice (some ⟨W.heap.size,0,none⟩) cs.length cs.length,.slice (some ⟨W4.heap.size,0,none⟩) 4 4] (fun o ho=>E0 _ n i i4 _ _ ?_ ?_ W5 o ho) _ hc ?_
 ·rw [Act.eval_put_ne _ _ _ _ (by omega),ti]
 ·exact Act.eval_put_same _ _ _ (by omega)
 rintro e W' ⟨p,rfl,hp,hbw,hblk⟩;refine⟨_,rfl,?_⟩;refine oZ _ 2 (nw ?_);refine k _ W' p (by rw [Act.size_put,Act.size_put,Act.size_put,sz]) (by rw [Act.defers_put',Act.defers_put',Act.defers_put',df]) ?_ (Nat.le_trans hb5.size hp) ?_ (hb5.trans (hbw.mono hb5.size))
 ·rw [Act.eval_put_same _ _ _ (by rw [Act.size_put,Act.size_put];omega)]
  exact Act.eval_put_same _ _ _ (by rw [Act.size_put];omega)
 refine⟨W.heap.size,W4.heap.size,fun l=>match l with | 0=>W0.heap.size | 1=>W1.heap.size | 2=>W2.heap.size | _=>W3.heap.size,hblk,k0.below hbw k0.lt,k5.below hbw k5.lt,?_⟩;intro l hl
 match l,hl with
 | 0,_=>exact k1.below hbw k1.lt
 | 1,_=>exact k2.below hbw k2.lt
 | 2,_=>exact k3.below hbw k3.lt
 | 3,_=>exact k4.below hbw k4.lt
end
theorem E2 {f:Nat}{c:Code}{A:qU}{As:List qU}(h:nt (f+1) c=A :: As) :
  ∃ (i1 i2:Nat) (ops body:Array Oper) (x:Operand) (rest:Code),c=.seq (.region i1 ops false) (.cond x (.seq (.region i2 body false) .ret) rest)/\ops.toList.map keyOf=A.1/\x=A.2.1/\body.toList.map keyOf=A.2.2/\nt f rest=As:=by
 unfold nt at h
 split at h
 ·cases h
 rotate_left
 ·cases h
 rename_i f' _ _ _ _ _ _ heq
 obtain rfl:f=f':=by omega
 injection h with h1 h2;subst h1;exact⟨_,_,_,_,_,_,rfl,rfl,rfl,rfl,h2⟩
theorem yv:∀ (L:List (Int×List (Int×Int))) (i:Nat),i<=fs L i:=by
 intro L
 induction L with
 | nil=>intro i;exact Nat.le_refl _
 | cons b L ih=>intro i;rw [fs];exact Nat.le_trans (by omega) (ih _)
def kP:Nat->List eo->Nat
 | s,[]=>s
 | s,v :: L=>kP (fs v.2 (s+3)+2) L
theorem yw:∀ (L:List eo) (s:Nat),s<=kP s L:=by
 intro L
 induction L with
 | nil=>intro s;exact Nat.le_refl _
 | cons v L ih=>intro s;rw [kP];exact Nat.le_trans (by have:=yv v.2 (s+3);omega) (ih _)
theorem E3 (Q:Exit->Act->World->Prop)(n:Nat)(W:World)(N:Nat):∀ (L:List eo) (m s f:Nat) (c:Code) (a:Act),nt f c=qV m s L->m<=n->n<m+L.length->(∀ v∈L,q8 v)->
  a.eval (.tmp 3)=.int .i64 (n:Int)->3<s->kP s L<=a.tmps.size->a.tmps.size=N->a.defers=[]->
  (∀ a' W' p,a'.tmps.size=N->a'.defers=[]->a'.eval (.tmp 2)=.pointer (some ⟨p,0,none⟩)->W.heap.size<=p->bT W' p (n:Int) (L.getD (n-m) ([],[]))->Below W.heap.size W W'->Q .ret a' W')->c.wp Tryz.prog Q a W:=by
 intro L
 induction L with
 | nil=>intro m s f c a _ h1 h2;simp at h2;omega
 | cons v L ih=>
  intro m s f c a hu h1 h2 hok h3 hs hsz hN hdf k;rw [qV] at hu;cases f with
  | zero=>cases hu
  | succ f=>
   obtain⟨i1,i2,ops,body,x,rest,rfl,ho,rfl,hb,hr⟩:=E2 hu;rw [kP] at hsz;have hge:=yw L (fs v.2 (s+3)+2);have hge2:=yv v.2 (s+3);refine wp_seq (wp_region_list ?_)
   revert ho
   refine fun ho=>(?_:WK ops (Exit.then ((Code.cond (Operand.tmp s) (.seq (.region i2 body false) .ret) rest).wp Tryz.prog Q) Q) [(.binOp .eql 3 (.tmp 3) (ci m) 3,some (s+1),none),(.assign (.tmp (s+1)),some s,none)] a W) _ ho
   refine EW _ (n:Int) (m:Int) (s+1) h3 (oZ _ s (nw ?_));have e1:(a.put (some (s+1)) (.bool ((n:Int)==(m:Int)))).eval (.tmp (s+1))=.bool ((n:Int)==(m:Int)):=Act.eval_put_same _ _ _ (by omega);rw [e1];obtain⟨a2,ha2⟩:∃ a2,a2=(a.put (some (s+1)) (.bool ((n:Int)==(m:Int)))).put (some s) (.bool ((n:Int)==(m:Int))):=⟨_,rfl⟩;rw [<- ha2];have z2:a2.tmps.size=a.tmps.size:=by rw [ha2,Act.size_put,Act.size_put]
   have f2:a2.defers=[]:=by rw [ha2,Act.defers_put',Act.defers_put',hdf]
   have b2:a2.eval (.tmp s)=.bool ((n:Int)==(m:Int)):=by rw [ha2];exact Act.eval_put_same _ _ _ (by rw [Act.size_put];omega)
   have c2:a2.eval (.tmp 3)=.int .i64 (n:Int):=by rw [ha2,Act.eval_put_ne _ _ _ _ (by omega),Act.eval_put_ne _ _ _ _ (by omega),h3]
   show (Code.cond (Operand.tmp s) (.seq (.region i2 body false) .ret) rest).wp Tryz.prog Q a2 W;by_cases e:n=m;rotate_left
   ·refine wp_cond_false (by rw [b2];simp;omega) ?_
    refine ih (m+1) (fs v.2 (s+3)+2) f rest a2 hr (by omega) (by rw [List.length_cons] at h2;omega) (fun v' hv'=>hok v' (List.mem_cons_of_mem _ hv')) c2 (by omega) (by omega) (by omega) f2 ?_
    intro a' W' p q1 q2 q3 q4 q5 q6;refine k a' W' p q1 q2 q3 q4 ?_ q6;rw [show n-m=(n-(m+1))+1 by omega,List.getD_cons_succ];exact q5
   subst e;refine wp_cond_true (by rw [b2];simp) ?_
   refine wp_seq (wp_region_list ?_);refine (?_:WK body (Exit.then (Code.ret.wp Tryz.prog Q) Q) (oX n v (s+2)) a2 W) _ hb;refine E1 n v (s+2) (hok v (List.mem_cons_self ..)) (by omega) (by rw [z2,show s+2+1=s+3 from rfl];omega) ?_
   intro a' W' p q1 q2 q3 q4 q5 q6;refine wp_ret ?_;refine k a' W' p (by omega) (by rw [q2,f2]) q3 q4 ?_ q6;rw [Nat.sub_self];exact q5
def dw (n:Nat):eo:=i9.getD (n-1) ([],[])
theorem E4:Tryz.f104.ntmps=kP 4 i9:=by kernel_rfl
theorem E5:Tryz.f104.results=#[.tmp 2]:=by kernel_rfl
theorem E6 (w:World)(n:Nat)(h:1<=n/\n<=40) :
  Calls Tryz.prog 104 #[.int .i64 (n:Int)] w fun e w'=>∃ p,e=.returned (.pointer (some ⟨p,0,none⟩))/\w.heap.size<=p/\bT w' p (n:Int) (dw n)/\Below w.heap.size w w':=by
 refine calls_of_wp Tryz.func104 ER ?_;have hnt:=E4;have hge:=yw i9 4;obtain⟨a,ha⟩:∃ a:Act,a={ tmps:=#[Value.int .i64 (n:Int)]++Array.replicate (Tryz.f104.ntmps-(#[Value.int .i64 (n:Int)]:Array Value).size) undef,defers:=[] }:=⟨_,rfl⟩;have hsz:a.tmps.size=kP 4 i9:=by
  rw [ha];show (#[Value.int .i64 (n:Int)]++Array.replicate (Tryz.f104.ntmps-1) undef).size=_;rw [Array.size_append,Array.size_replicate,hnt];show 1+_=_;omega
 have hdf:a.defers=[]:=by rw [ha]
 have h0:a.eval (.tmp 0)=.int .i64 (n:Int):=by
  rw [ha];unfold Act.eval;simp
 rw [<- ha];obtain⟨k1,k2⟩:=ES;obtain⟨k3,k4⟩:=ET;refine wp_seq ?_;rw [k1];refine wp_region_list ?_;refine (?_:WK _ _ _ a w) _ k2;refine oZ _ 2 (nw ?_);show Code.wp Tryz.prog _ _ _ w;refine wp_seq (wp_seq ?_);rw [k3];refine wp_region_list ?_;refine (?_:WK _ _ _ _ w) _ k4;refine EV _ 3 (nw ?_);show Code.wp Tryz.prog _ _ _ w;refine wp_block ?_;have z:∀ (v1 v2:Value),((a.put (some 2) v1).put (some 3) v2).tmps.size=kP 4 i9:=fun v1 v2=>by rw [Act.size_put,Act.size_put,hsz]
 refine E3 _ n w (kP 4 i9) i9 1 4 40 _ _ EU h.1 (by show n<1+40;omega) yu ?_ (by omega) (by rw [z];exact Nat.le_refl _) (z _ _) (by rw [Act.defers_put',Act.defers_put',hdf]) ?_
 ·rw [Act.eval_put_same _ _ _ (by rw [Act.size_put,hsz];omega),Act.eval_put_ne _ _ _ _ (by omega),h0]
 intro a' W' p q1 q2 q3 q4 q5 q6;have hgoal:bodyPost Tryz.prog Tryz.f104 (fun e w'=>∃ p,e=.returned (.pointer (some ⟨p,0,none⟩))/\w.heap.size<=p/\bT w' p (n:Int) (dw n)/\Below w.heap.size w w') .ret a' W':=by
  refine bodyPost_ret (v:=.pointer (some ⟨p,0,none⟩)) ?_ q2 ⟨p,rfl,q4,q5,q6⟩;rw [show results Tryz.f104 a'.tmps=results { Tryz.f104 with results:=#[.tmp 2] } a'.tmps from by unfold results;rw [E5]]
  have:(a'.tmps[2]?.getD undef)=.pointer (some ⟨p,0,none⟩):=by simpa [Act.eval] using q3
  simp [results,go_sem,this]
 exact hgoal
end Go.Proofs.YtgccjgpdjkhpdaaGreat.B
