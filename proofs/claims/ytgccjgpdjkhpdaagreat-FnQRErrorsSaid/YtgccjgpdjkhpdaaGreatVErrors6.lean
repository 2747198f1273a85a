import Derived.Laws.BitsAllLaws
import Derived.Laws.BitsLemmas
import Derived.Test.YtgccjgpdjkhpdaaGreatVErrors3
import Derived.Test.YtgccjgpdjkhpdaaGreatVErrors5
open Int renaming toNat_natCast→Mw,natCast_mul→My
open Go.Proofs.YtgccjgpdjkhpdaaGreatW.PrintWords.Aside0 renaming mk→Mx
open List renaming getD_eq_getElem?_getD→Mz
open Nat renaming pow_lt_pow_right→MA
/-! Own texts of this claim, part 6. -/
namespace Go.Proofs.YtgccjgpdjkhpdaaGreat.B
open Go.RowKit Go.Proofs.YtgccjgpdjkhpdaaGreatW.PrintWords Go.Proofs.YtgccjgpdjkhpdaaGreatW.PrintLast Go.Proofs.YtgccjgpdjkhpdaaGreatW.PrintMore
set_option linter.unusedVariables false
set_option linter.unusedSimpArgs false
def aM (wd:Nat):Nat:=(wd+31)/32
def sf (xs:List Int)(rs x y:Nat):Bool:=(rd xs ((y*rs+x/32:Nat):Int)).toNat.testBit (x%32)
structure GW (wd ht:Nat)(xs:List Int)(f:Nat->Nat->Bool):Prop where
 len:xs.length=aM wd*ht
 lim:∀ v∈xs,0<=v/\v<4294967296
 bit:∀ x y,x<wd->y<ht->sf xs (aM wd) x y=f x y
theorem GW.congr {wd ht:Nat}{xs:List Int}{f h:Nat->Nat->Bool}(G:GW wd ht xs f)(e:∀ x y,x<wd->y<ht->f x y=h x y):GW wd ht xs h :=
 ⟨G.len,G.lim,fun x y hx hy=>(G.bit x y hx hy).trans (e x y hx hy)⟩
theorem uH {xs:List Int}(h:∀ v∈xs,0<=v/\v<4294967296)(i:Int):0<=rd xs i/\rd xs i<4294967296:=by
 unfold rd;rw [Mz];cases e:xs[i.toNat]? with
 | none=>exact⟨by simp,by simp⟩
 | some v=>exact h v (List.mem_of_getElem? e)
theorem Lx (xs:List Int)(i:Nat)(v:Int)(j:Nat)(h:i<xs.length):rd (xs.set i v) (j:Int)=if i=j then v else rd xs j:=by
 unfold rd;rw [Mw,Mz,Mz,List.getElem?_set];by_cases e:i=j
 ·subst e;simp [h]
 simp [e]
theorem pu (k:Nat)(h:k<32):(0:Int)<=((2 ^ k:Nat):Int)/\((2 ^ k:Nat):Int)<4294967296:=by
 have:(2 ^ k:Nat)<4294967296:=Nat.lt_of_lt_of_le (MA (by omega) h) (Nat.le_refl _);generalize (2 ^ k:Nat)=n at *;omega
theorem Ly (k:Nat)(h:k<32):(2:Int) ^ k%4294967296=((2 ^ k:Nat):Int):=by
 have e:(2:Int) ^ k=((2 ^ k:Nat):Int):=by rw [Int.natCast_pow];rfl
 obtain⟨h1,h2⟩:=pu k h;rw [e];exact Int.emod_eq_of_lt h1 h2
theorem pw (wd ht x y:Nat)(hx:x<wd)(hy:y<ht):y*aM wd+x/32<aM wd*ht:=by
 have h1:x/32<aM wd:=by unfold aM;omega
 have h2:(y+1)*aM wd<=ht*aM wd:=Nat.mul_le_mul_right _ hy;rw [Nat.add_mul,Nat.one_mul] at h2;rw [Nat.mul_comm (aM wd) ht];omega
theorem Lz (wd x y a c:Nat)(hx:x<wd)(ha:a<wd)(h:y*aM wd+x/32=c*aM wd+a/32):y=c/\x/32=a/32:=by
 have h1:x/32<aM wd:=by unfold aM;omega
 have h2:a/32<aM wd:=by unfold aM;omega
 have e1:(y*aM wd+x/32)/aM wd=(c*aM wd+a/32)/aM wd:=by rw [h]
 have hp:0<aM wd:=by omega
 rw [Nat.mul_comm y,Nat.mul_comm c,Nat.mul_add_div hp,Nat.mul_add_div hp,Nat.div_eq_of_lt h1,Nat.div_eq_of_lt h2] at e1;have:y=c:=by omega
 subst this;exact⟨rfl,by omega⟩
theorem GW.turn {wd ht:Nat}{xs:List Int}{f:Nat->Nat->Bool}(G:GW wd ht xs f)(x y:Nat)(hx:x<wd)(hy:y<ht)(v:Nat)(hv:v<4294967296)(b:Bool)
  (hb:∀ k,k<32->v.testBit k=if k=x%32 then b else (rd xs ((y*aM wd+x/32:Nat):Int)).toNat.testBit k) :
  GW wd ht (xs.set (y*aM wd+x/32) (v:Int)) (fun a c=>if a=x/\c=y then b else f a c):=by
 have hlt:=pw wd ht x y hx hy;refine⟨by rw [List.length_set,G.len],?_,?_⟩
 ·intro u hu;rcases List.mem_or_eq_of_mem_set hu with h | h
  ·exact G.lim u h
  subst h;omega
 intro a c ha hc;unfold sf;rw [Lx _ _ _ _ (by rw [G.len];exact hlt)]
 by_cases e:y*aM wd+x/32=c*aM wd+a/32;rotate_left
 ·rw [if_neg e,if_neg]
  ·exact G.bit a c ha hc
  rintro⟨rfl,rfl⟩;exact e rfl
 obtain⟨rfl,e2⟩:=Lz wd x y a c hx ha e;rw [if_pos e,Mw,hb _ (by omega)];by_cases e3:a=x
 ·subst e3;rw [if_pos rfl,if_pos ⟨rfl,rfl⟩]
 rw [if_neg (by omega),if_neg (by rintro⟨h,_⟩;exact e3 h),e2]
 exact G.bit a y ha hy
theorem LA (a k:Nat)(ha:a<4294967296)(hk:k<32):(a ||| 2 ^ k)<4294967296/\∀ i,i<32->(a ||| 2 ^ k).testBit i=if i=k then true else a.testBit i:=by
 have h2:2 ^ k<4294967296:=Nat.lt_of_lt_of_le (MA (by omega) hk) (Nat.le_refl _);refine⟨Nat.or_lt_two_pow (n:=32) ha h2,fun i hi=>?_⟩;rw [Nat.testBit_or,Nat.testBit_two_pow];by_cases e:i=k
 ·subst e;simp
 rw [if_neg e];simp [show ¬ k=i from fun h=>e h.symm]
theorem LB (a k:Nat)(ha:a<4294967296)(hk:k<32):(a ^^^ 2 ^ k)<4294967296/\∀ i,i<32->(a ^^^ 2 ^ k).testBit i=if i=k then !a.testBit k else a.testBit i:=by
 have h2:2 ^ k<4294967296:=Nat.lt_of_lt_of_le (MA (by omega) hk) (Nat.le_refl _);refine⟨Nat.xor_lt_two_pow (n:=32) ha h2,fun i hi=>?_⟩;rw [Nat.testBit_xor,Nat.testBit_two_pow];by_cases e:i=k
 ·subst e;simp
 rw [if_neg e];simp [show ¬ k=i from fun h=>e h.symm]
theorem AG (x:Nat):(2:Int) ^ (((x:Nat):Int)%32).toNat%4294967296=((2 ^ (x%32):Nat):Int):=by
 rw [show (((x:Nat):Int)%32).toNat=x%32 by omega];exact Ly _ (by omega)
theorem uI (y rs x:Nat):((y*rs:Nat):Int)+(x:Int)/32=((y*rs+x/32:Nat):Int):=by omega
theorem GW.or {wd ht:Nat}{xs:List Int}{f:Nat->Nat->Bool}(G:GW wd ht xs f)(x y:Nat)(hx:x<wd)(hy:y<ht) :
  GW wd ht (mI xs ((y*aM wd:Nat):Int) (x:Int)) (fun a c=>if a=x/\c=y then true else f a c):=by
 unfold mI;obtain⟨l1,l2⟩:=uH G.lim ((y*aM wd+x/32:Nat):Int);rw [AG,uI,Mw,u32_or _ _ l1 l2 (pu (x%32) (by omega)).1 (pu (x%32) (by omega)).2,Mw];obtain⟨o1,o2⟩:=LA (rd xs ((y*aM wd+x/32:Nat):Int)).toNat (x%32) (by omega) (by omega);exact G.turn x y hx hy _ o1 true o2
theorem GW.xor {wd ht:Nat}{xs:List Int}{f:Nat->Nat->Bool}(G:GW wd ht xs f)(x y:Nat)(hx:x<wd)(hy:y<ht) :
  GW wd ht (uG xs ((y*aM wd:Nat):Int) (x:Int)) (fun a c=>if a=x/\c=y then !f a c else f a c):=by
 unfold uG;obtain⟨l1,l2⟩:=uH G.lim ((y*aM wd+x/32:Nat):Int);rw [AG,uI,Mw,u32_xor _ _ l1 l2 (pu (x%32) (by omega)).1 (pu (x%32) (by omega)).2,Mw];obtain⟨o1,o2⟩:=LB (rd xs ((y*aM wd+x/32:Nat):Int)).toNat (x%32) (by omega) (by omega);refine (G.turn x y hx hy _ o1 _ o2).congr ?_;intro a c ha hc;by_cases e:a=x/\c=y;rotate_left
 ·rw [if_neg e,if_neg e]
 rw [if_pos e,if_pos e,e.1,e.2];congr 1;exact G.bit x y hx hy
theorem GW.get {wd ht:Nat}{xs:List Int}{f:Nat->Nat->Bool}(G:GW wd ht xs f)(x y:Nat)(hx:x<wd)(hy:y<ht) :
  (Go.bits .and .u32 (rd xs (((y*aM wd:Nat):Int)+(x:Int)/32)/2 ^ (((x:Nat):Int)%32).toNat) 1 != 0)=f x y:=by
 obtain⟨l1,l2⟩:=uH G.lim ((y*aM wd+x/32:Nat):Int);rw [uI,show (((x:Nat):Int)%32).toNat=x%32 by omega];have hb:=G.bit x y hx hy;unfold sf at hb;obtain⟨a,ha⟩:=Int.eq_ofNat_of_zero_le l1;rw [ha] at hb l2 ⊢;rw [Mw] at hb;have e:((a:Int)/2 ^ (x%32))=((a/2 ^ (x%32):Nat):Int):=by
  rw [Int.natCast_ediv,Int.natCast_pow];rfl
 have hle:a/2 ^ (x%32)<=a:=Nat.div_le_self _ _;have e1:=u32_and_nat (a/2 ^ (x%32)) 1 (by omega) (by omega);rw [e,show (1:Int)=((1:Nat):Int) from rfl,e1,<- hb,Nat.testBit_eq_decide_div_mod_eq,Nat.and_one_is_mod];by_cases h:a/2 ^ (x%32)%2=1
 ·rw [h];rfl
 rw [show a/2 ^ (x%32)%2=0 by omega];rfl
theorem GW.zero (wd ht:Nat):GW wd ht (List.replicate (aM wd*ht) 0) (fun _ _=>false):=by
 refine⟨List.length_replicate,?_,?_⟩
 ·intro v hv;rw [List.mem_replicate] at hv;omega
 intro x y hx hy;unfold sf rd;have h:=pw wd ht x y hx hy;rw [Mw,Mz,List.getElem?_replicate,if_pos h];simp
theorem GW.row {wd ht:Nat}(y left:Nat)(hy:y<ht):∀ (n:Nat) {xs:List Int} {f:Nat->Nat->Bool},left+n<=wd->GW wd ht xs f->
  GW wd ht (iZ xs ((y*aM wd:Nat):Int) (left:Int) n) (fun a c=>if left<=a/\a<left+n/\c=y then true else f a c):=by
 intro n
 induction n with
 | zero=>
  intro xs f _ G;refine G.congr fun a c _ _=>?_
  rw [if_neg (by omega)]
 | succ n ih=>
  intro xs f h G;rw [iZ,show ((left:Nat):Int)+((n:Nat):Int)=((left+n:Nat):Int) by omega];refine ((ih (by omega) G).or (left+n) y (by omega) hy).congr fun a c _ _=>?_
  by_cases e:a=left+n/\c=y
  ·rw [if_pos e,if_pos (by omega)]
  rw [if_neg e];by_cases e2:left<=a/\a<left+n/\c=y
  ·rw [if_pos e2,if_pos (by omega)]
  rw [if_neg e2,if_neg (by omega)]
theorem GW.region {wd ht:Nat}(left n top:Nat)(hn:left+n<=wd):∀ (m:Nat) {xs:List Int} {f:Nat->Nat->Bool},top+m<=ht->GW wd ht xs f->
  GW wd ht (jt xs ((aM wd:Nat):Int) (left:Int) n (top:Int) m) (fun a c=>dz left top n m a c || f a c):=by
 intro m
 induction m with
 | zero=>
  intro xs f _ G;refine G.congr fun a c _ _=>?_
  rw [show dz left top n 0 a c=false from by unfold dz;rw [decide_eq_false_iff_not];omega,Bool.false_or]
 | succ m ih=>
  intro xs f h G;rw [jt,show (((top:Nat):Int)+((m:Nat):Int))*((aM wd:Nat):Int)=(((top+m)*aM wd:Nat):Int) by rw [My,Int.natCast_add]];refine (GW.row (top+m) left (by omega) n hn (ih (by omega) G)).congr fun a c _ _=>?_
  unfold dz;by_cases e:left<=a/\a<left+n/\c=top+m
  ·rw [if_pos e,decide_eq_true (by omega),Bool.true_or]
  rw [if_neg e];congr 1;rw [decide_eq_decide];omega
def aQ (w:World)(g b wd ht:Nat)(f:Nat->Nat->Bool):Prop:=∃ xs:List Int,
 Blk w g 201 #[.int .i64 (wd:Int),.int .i64 (ht:Int),.int .i64 (aM wd:Int),.slice (some ⟨b,0,none⟩) (aM wd*ht) (aM wd*ht)]/\Blk w b 214 (ac .u32 xs).toArray/\GW wd ht xs f
theorem aQ.congr {w:World}{g b wd ht:Nat}{f h:Nat->Nat->Bool}(G:aQ w g b wd ht f)(e:∀ x y,x<wd->y<ht->f x y=h x y):aQ w g b wd ht h:=by
 obtain⟨xs,h1,h2,h3⟩:=G;exact⟨xs,h1,h2,h3.congr e⟩
theorem aQ.ne {w:World}{g b wd ht:Nat}{f:Nat->Nat->Bool}(G:aQ w g b wd ht f):g≠b:=by
 obtain⟨xs,h1,h2,h3⟩:=G;exact bd h1 h2 (by decide)
theorem aQ.keep {w w':World}{g b wd ht:Nat}{f:Nat->Nat->Bool}(G:aQ w g b wd ht f)(hg:w'.heap[g]? = w.heap[g]?)(hb:w'.heap[b]? = w.heap[b]?):aQ w' g b wd ht f:=by
 obtain⟨xs,h1,h2,h3⟩:=G;exact⟨xs,hg.trans h1,hb.trans h2,h3⟩
theorem aQ.lt {w:World}{g b wd ht:Nat}{f:Nat->Nat->Bool}(G:aQ w g b wd ht f):g<w.heap.size/\b<w.heap.size:=by
 obtain⟨xs,h1,h2,h3⟩:=G;exact⟨h1.lt,h2.lt⟩
theorem aQ.below {w w':World}{g b wd ht B:Nat}{f:Nat->Nat->Bool}(G:aQ w g b wd ht f)(hb:Below B w w')(h1:g<B)(h2:b<B):aQ w' g b wd ht f:=G.keep (hb.block g h1) (hb.block b h2)
theorem px (wd ht:Nat)(h1:wd<=1000)(h2:ht<=1000):aM wd*ht<=1000000:=Nat.le_trans (Nat.mul_le_mul (show aM wd<=1000 by unfold aM;omega) h2) (by omega)
theorem AH (wd:Nat):((wd:Int)+31)/32=((aM wd:Nat):Int):=by unfold aM;omega
theorem LC (w:World)(g b wd ht:Nat)(f:Nat->Nat->Bool)(x y:Nat)(G:aQ w g b wd ht f)(hx:x<wd)(hy:y<ht)(hw:wd<=1000)(hh:ht<=1000) :
  Calls Tryz.prog 148 #[.pointer (some ⟨g,0,none⟩),.int .i64 (x:Int),.int .i64 (y:Int)] w fun e w'=>e=.returned (.tuple #[])/\aQ w' g b wd ht (fun a c=>if a=x/\c=y then true else f a c)/\af w w' b:=by
 have hne:=G.ne;obtain⟨xs,h1,h2,h3⟩:=G;have:=pw wd ht x y hx hy;have:=px wd ht hw hh;refine (Lu w g b wd ht (aM wd:Nat) x y ((y*aM wd:Nat):Int) xs (aM wd*ht) h1 h2 h3.len (by omega) (by rw [My]) (by omega) (by omega) (by omega) (by omega)).mono ?_;rintro e w' ⟨rfl,k1,k2⟩;exact⟨rfl,⟨_,k2.blk h1 hne,k1,h3.or x y hx hy⟩,k2⟩
theorem LD (w:World)(g b wd ht:Nat)(f:Nat->Nat->Bool)(x y:Nat)(G:aQ w g b wd ht f)(hx:x<wd)(hy:y<ht)(hw:wd<=1000)(hh:ht<=1000) :
  Calls Tryz.prog 140 #[.pointer (some ⟨g,0,none⟩),.int .i64 (x:Int),.int .i64 (y:Int)] w fun e w'=>e=.returned (.tuple #[])/\aQ w' g b wd ht (fun a c=>if a=x/\c=y then !f a c else f a c)/\af w w' b:=by
 have hne:=G.ne;obtain⟨xs,h1,h2,h3⟩:=G;have:=pw wd ht x y hx hy;have:=px wd ht hw hh;refine (Lv w g b wd ht (aM wd:Nat) x y ((y*aM wd:Nat):Int) xs (aM wd*ht) h1 h2 h3.len (by omega) (by rw [My]) (by omega) (by omega) (by omega) (by omega)).mono ?_;rintro e w' ⟨rfl,k1,k2⟩;exact⟨rfl,⟨_,k2.blk h1 hne,k1,h3.xor x y hx hy⟩,k2⟩
theorem uJ (w:World)(g b wd ht:Nat)(f:Nat->Nat->Bool)(x y:Nat)(G:aQ w g b wd ht f)(hx:x<wd)(hy:y<ht)(hw:wd<=1000)(hh:ht<=1000) :
  Calls Tryz.prog 94 #[.pointer (some ⟨g,0,none⟩),.int .i64 (x:Int),.int .i64 (y:Int)] w fun e w'=>e=.returned (.bool (f x y))/\w=w':=by
 obtain⟨xs,h1,h2,h3⟩:=G;have:=pw wd ht x y hx hy;have:=px wd ht hw hh;refine (Lw w g b wd ht (aM wd:Nat) x y ((y*aM wd:Nat):Int) xs (aM wd*ht) h1 h2 h3.len (by omega) (by rw [My]) (by omega) (by omega) (by omega) (by omega) (by omega) (by omega) (by omega)).mono ?_;rintro e w' ⟨rfl,k⟩;exact⟨by rw [h3.get x y hx hy],k⟩
theorem AI (w:World)(wd ht:Nat)(h1:1<=wd)(h2:1<=ht)(hw:wd<=1000)(hh:ht<=1000) :
  Calls Tryz.prog 147 #[.int .i64 (wd:Int),.int .i64 (ht:Int)] w fun e w'=>e=.returned (.tuple #[.pointer (some ⟨w.heap.size+1,0,none⟩),.nilIface])/\aQ w' (w.heap.size+1) w.heap.size wd ht (fun _ _=>false)/\Below w.heap.size w w':=by
 have:=px wd ht hw hh;refine (Ew w wd ht ((aM wd:Nat):Int) (aM wd*ht) (by omega) (by omega) (by omega) (AH wd) (by rw [My]) (by omega)).mono ?_;rintro e w' ⟨rfl,rfl⟩;refine⟨rfl,⟨_,?_,?_,GW.zero wd ht⟩,(Below.refl _ _).alloc (Nat.le_refl _) _ |> fun h=>h.alloc h.size _⟩;rotate_left
 ·exact (Blk.new w _ _).alloc _
 have:=Blk.new (w.alloc (.cells (ac .u32 (List.replicate (aM wd*ht) 0)).toArray 214)) 201 #[.int .i64 wd,.int .i64 ht,.int .i64 (aM wd:Nat),.slice (some ⟨w.heap.size,0,none⟩) (aM wd*ht) (aM wd*ht)];simpa using this
theorem LE (w:World)(g b wd ht left top n m:Nat)(f:Nat->Nat->Bool)(G:aQ w g b wd ht f)(h2:1<=n)(h3:1<=m)(h4:left+n<=wd)(h5:top+m<=ht)(hw:wd<=1000)(hh:ht<=1000) :
  Calls Tryz.prog 142 #[.pointer (some ⟨g,0,none⟩),.int .i64 (left:Int),.int .i64 (top:Int),.int .i64 (n:Int),.int .i64 (m:Int)] w fun e w'=>e=.returned .nilIface/\
   aQ w' g b wd ht (fun a c=>dz left top n m a c || f a c)/\af w w' b:=by
 have hne:=G.ne;obtain⟨xs,k1,k2,k3⟩:=G;have:=px wd ht hw hh;refine (EB w g b wd ht (aM wd:Nat) left top n m xs (aM wd*ht) k1 k2 k3.len (by omega) (AH wd) (by rw [My]) (by omega) (by omega) (by omega) (by omega) (by omega) (by omega) (by omega) (by omega)).mono ?_;rintro e w' ⟨rfl,l1,l2⟩;refine⟨rfl,⟨_,l2.blk k1 hne,l1,?_⟩,l2⟩;rw [Mw,Mw];exact GW.region left n top h4 m h5 k3
abbrev lx (w:World)(A:Option Addr)(rows:List (List Bool)):Prop:=Kd.C (Kd.slice 4 Kd.bool) w A rows.length rows
def fY (rows:List (List Bool))(x y:Nat):Bool:=(rows.getD y []).getD x false
theorem lx.at_ {w:World}{A:Option Addr}{rows:List (List Bool)}(h:lx w A rows)(y:Nat)(hy:y<rows.length) :
  ∃ ad Ay cy,A=some ad/\w.cell? (ad.add y)=some (.slice Ay (rows.getD y []).length cy)/\(rows.getD y []).length<=cy/\Kd.C Kd.bool w Ay (rows.getD y []).length (rows.getD y []):=by
 obtain⟨ad,c,hA,hl,⟨Ay,cy,hc,hle,hC⟩,hg⟩:=Kd.mY h [] (y:Int) (by omega) (by omega);rw [Mw] at hc hle hC hg;refine⟨ad,Ay,cy,hA,?_,hle,hC⟩;have:=hg 0 (.slice Ay (rows.getD y []).length cy) (by rw [hc];rfl)
 rw [show y*(Kd.slice 4 Kd.bool).sz+0=y by show y*1+0=y;omega] at this
 exact this
theorem LF {w:World}{A:Option Addr}{xs:List Bool}(h:Kd.C Kd.bool w A xs.length xs)(x:Nat)(hx:x<xs.length):∃ ax,A=some ax/\w.cell? (ax.add x)=some (.bool (xs.getD x false)):=by
 obtain⟨ad,c,hA,hl,hc,hg⟩:=Kd.mY h false (x:Int) (by omega) (by omega);rw [Mw] at hc hg;refine⟨ad,hA,?_⟩;have:=hg 0 (.bool (xs.getD x false)) (by rw [show c=[.bool (xs.getD x false)] from hc];rfl)
 rw [show x*Kd.bool.sz+0=x by show x*1+0=x;omega] at this
 exact this
set_option maxHeartbeats 1000000 in
theorem LG (w:World)(A:Option Addr)(c:Nat)(rows:List (List Bool))(wd ht:Nat)(hr:lx w A rows)(hc:rows.length<=c)(hn:rows.length=ht)(h1:1<=ht)(h2:ht<=1000)
  (hw:(rows.getD 0 []).length=wd) (h3:1<=wd) (h4:wd<=1000) (hrow:∀ y,y<ht->wd<=(rows.getD y []).length/\(rows.getD y []).length<=1000000) :
  Calls Tryz.prog 125 #[.slice A ht c] w fun e w'=>e=.returned (.tuple #[.pointer (some ⟨w.heap.size+1,0,none⟩),.nilIface])/\aQ w' (w.heap.size+1) w.heap.size wd ht (fY rows)/\Below w.heap.size w w':=by
 subst hn;obtain⟨ad,A0,c0,rfl,k0,_,_⟩:=hr.at_ 0 (by omega);rw [hw] at k0;have hc0:ad.add 0=ad:=by unfold Addr.add;simp
 rw [hc0] at k0;have HR:=Mx hr;have HROW:=Mx hrow;have HW:=Mx hw;clear hr hrow hw hc0;obtain⟨ht,hht⟩:∃ ht,rows.length=ht:=⟨_,rfl⟩;rw [hht] at h1 h2 hc ⊢;have HT:=Mx hht;clear hht;have hgt:decide (0<(ht:Int))=true:=decide_eq_true (by omega);have hgt':decide (0<ht)=true:=decide_eq_true (by omega)
 go_enter Tryz.func125,Tryz.ntmps125
 go_wp2_with (go_at_call 147;refine (AI _ wd ht h3 h1 h4 h2).mono ?_;rintro e w' ⟨rfl,hG,hB⟩)
 have HG:=Mx hG;have HB:=Mx hB;clear hG hB k0 hgt hgt'
 go_loopw [8] (fun v wr=>∃ i:Nat,i<=ht/\v=.int .i64 (i:Int)/\Aside0 (aQ wr (w.heap.size+1) w.heap.size wd ht (fun x y=>decide (y<i) && fY rows x y))/\Aside0 (Below w.heap.size w wr)) (fun v _=>(ht-intOf v).toNat)
 case atStart=>exact⟨0,Nat.zero_le _,rfl,⟨HG.out.congr fun x y _ _=>by simp⟩,HB⟩
 case round=>
  obtain⟨i,hi,rfl,HGr,HBr⟩:=hrel;by_cases hlt:i<ht;rotate_left
  ·have:i=ht:=by omega
   subst this
   go_wp2
   go_ret2
   exact⟨rfl,HGr.out.congr fun x y hx hy=>by rw [decide_eq_true (by omega),Bool.true_and],HBr.out⟩
  obtain⟨ad',Ay,cy,e1,ki0,hle,hC⟩:=HR.out.at_ i (by have:=HT.out;omega)
  obtain rfl:ad=ad':=Option.some.inj e1;have ki:=g8 HBr.out ki0;obtain⟨hl1,hl2⟩:=HROW.out i (by have:=HT.out;omega)
  have HC:=Mx hC;obtain⟨len,hlen⟩:∃ len,(rows.getD i []).length=len:=⟨_,rfl⟩;rw [hlen] at ki hle hl1 hl2;have HLEN:=Mx hlen;clear e1 hC hlen ki0
  go_wp2
  obtain⟨wo,rfl⟩:∃ wo:World,wo=wr:=⟨_,rfl⟩;clear ki
  go_loopw [10] (fun v wi=>∃ j:Nat,j<=wd/\v=.int .i64 (j:Int)/\Aside0 (aQ wi (w.heap.size+1) w.heap.size wd ht (fun x y=>decide (y<i\/y=i/\x<j) && fY rows x y))/\Aside0 (af wo wi w.heap.size)/\Aside0 (Below w.heap.size w wi)) (fun v _=>(wd-intOf v).toNat)
  case atStart=>exact⟨0,Nat.zero_le _,rfl,⟨HGr.out.congr fun x y _ _=>by simp⟩,⟨af.refl _ _⟩,HBr⟩
  case round=>
   obtain⟨j,hj,rfl,HGi,HTi,HBi⟩:=hrel;by_cases hlj:j<wd;rotate_left
   ·have:j=wd:=by omega
    subst this
    go_wp2
    go_roundw
    case rel=>exact⟨i+1,by omega,by go_num,⟨HGi.out.congr fun x y hx hy=>by congr 1;rw [decide_eq_decide];omega⟩,HBi⟩
    case measure=>simp [intOf];omega
   obtain⟨ax,e2,kj⟩:=LF (Kd.bB HC.out HBi.out) j (by have:=HLEN.out;omega)
   subst e2;have hmul:j<=len:=by omega
   have hjl:decide (j<len)=true:=decide_eq_true (by omega);by_cases hbit:fY rows j i=true;rotate_left
   ·have hbit:fY rows j i=false:=by simpa using hbit
    have hv:(rows.getD i []).getD j false=false:=hbit;rw [hv] at kj;have HV:=Mx hbit;clear hv hbit
    go_wp2
    go_roundw
    case rel=>exact⟨j+1,by omega,by go_num,⟨HGi.out.congr fun x y hx hy=>by
     by_cases e:x=j/\y=i
     ·rw [e.1,e.2,HV.out,Bool.and_false,Bool.and_false]
     congr 1;rw [decide_eq_decide];omega⟩,HTi,HBi⟩
    case measure=>simp [intOf];omega
   have hv:(rows.getD i []).getD j false=true:=hbit;rw [hv] at kj;have HV:=Mx hbit;clear hv hbit
   go_wp2_with (go_at_call 148;refine (LC _ _ _ wd ht _ j i HGi.out hlj hlt h4 h2).mono ?_;rintro e w' ⟨rfl,hG2,hT2⟩)
   go_roundw
   case rel=>exact⟨j+1,by omega,by go_num,⟨hG2.congr fun x y hx hy=>by
    by_cases e:x=j/\y=i
    ·rw [if_pos e,e.1,e.2,HV.out,decide_eq_true (by omega)];rfl
    rw [if_neg e];congr 1;rw [decide_eq_decide];omega⟩,⟨HTi.out.trans hT2⟩,⟨HBi.out.trans (hT2.below (Nat.le_refl _))⟩⟩
   case measure=>simp [intOf];omega
theorem py (w:World)(g b wd ht:Nat)(f:Nat->Nat->Bool)(G:aQ w g b wd ht f) :
  Calls Tryz.prog 83 #[.pointer (some ⟨g,0,none⟩)] w fun e w'=>e=.returned (.int .i64 (ht:Int))/\w=w':=by
 obtain⟨xs,h1,h2,h3⟩:=G;have c1:w.cell? ⟨g,1,none⟩=some (.int .i64 (ht:Int)):=h1.cell 1;clear h1 h2 h3
 go_enter Tryz.func83,Tryz.ntmps83
 go_wp2
 go_ret
 exact⟨rfl,rfl⟩
theorem pz (a b:Nat)(ha:a<4294967296)(hb:b<4294967296):Go.bits .and .i64 (a:Int) (b:Int)=((a &&& b:Nat):Int) :=
 (bits_nat .i64 32 (by decide) (fun n h0 h1=>by rw [IntKind.wrap_i64];omega) a b ha hb).1
theorem pA (a b:Nat)(ha:a<4294967296)(hb:b<4294967296):Go.bits .or .i64 (a:Int) (b:Int)=((a ||| b:Nat):Int) :=
 (bits_nat .i64 32 (by decide) (fun n h0 h1=>by rw [IntKind.wrap_i64];omega) a b ha hb).2
theorem AJ (n:Nat)(h:n<=1000):Go.bits .and .i64 (n:Int) 3=((n%4:Nat):Int):=by
 have:=pz n 3 (by omega) (by omega);rw [show (3:Int)=((3:Nat):Int) from rfl,this,show n &&& 3=n%4 from Nat.and_two_pow_sub_one_eq_mod (n:=2) n]
def AK (g:Nat):Array Value:=#[.pointer (some ⟨g,0,none⟩),.pointer none,.pointer none,.bool false]
theorem LH (w:World)(g b wd ht:Nat)(f:Nat->Nat->Bool)(G:aQ w g b wd ht f)(h1:21<=ht)(h2:ht<=1000)(h3:ht%4=1) :
  Calls Tryz.prog 82 #[.pointer (some ⟨g,0,none⟩)] w fun e w'=>e=.returned (.tuple #[.pointer (some ⟨w.heap.size,0,none⟩),.nilIface])/\w'=w.alloc (.cells (AK g) 144):=by
 have k:=py w g b wd ht f G;have ha:(Go.bits .and .i64 (ht:Int) 3==1)=true:=by rw [AJ ht h2,h3];rfl
 have hb:(Go.bits .and .i64 (ht:Int) 3 != 1)=false:=by rw [AJ ht h2,h3];rfl
 clear h3 G
 go_enter Tryz.func82,Tryz.ntmps82
 go_wp2_with (go_at_call 83;refine k.mono ?_;rintro e w' ⟨rfl,rfl⟩)
 go_ret2
 exact⟨rfl,rfl⟩
theorem AL {k:IntKind}{a b:Int}(h:a=b):Ending.returned (.int k a)=.returned (.int k b):=by rw [h]
theorem LI (v:Nat):2*v ||| 1=2*v+1:=by
 apply Nat.eq_of_testBit_eq;intro i;rw [Nat.testBit_or];cases i with
 | zero=>simp
 | succ i=>rw [Nat.testBit_succ,Nat.testBit_succ,Nat.testBit_succ,show 2*v/2=v by omega,show (2*v+1)/2=v by omega];simp
theorem AM (v:Nat)(h:v<1000000):Go.bits .or .i64 ((v:Int)*2) 1=((2*v+1:Nat):Int):=by
 have:=pA (2*v) 1 (by omega) (by omega);rw [LI] at this;rw [<- this];congr 1;omega
theorem ma (w:World)(p g b wd ht:Nat)(f:Nat->Nat->Bool)(x1 x2:Value)(i j v:Nat)(hp:Blk w p 144 #[.pointer (some ⟨g,0,none⟩),x1,x2,.bool false])(G:aQ w g b wd ht f)
  (hi:i<wd) (hj:j<ht) (hw:wd<=1000) (hh:ht<=1000) (hv:v<1000000) :
  Calls Tryz.prog 84 #[.pointer (some ⟨p,0,none⟩),.int .i64 (i:Int),.int .i64 (j:Int),.int .i64 (v:Int)] w fun e w'=>e=.returned (.int .i64 ((2*v+(f i j).toNat:Nat):Int))/\w=w':=by
 have k:=uJ w g b wd ht f i j G hi hj hw hh;have c0:w.cell? ⟨p,0,none⟩=some (.pointer (some ⟨g,0,none⟩)):=hp.cell 0;have c3:w.cell? ⟨p,3,none⟩=some (.bool false):=hp.cell 3;have ho:=AM v hv;clear hp G;cases hb:f i j with
 | true=>
  rw [hb] at k;clear hb
  go_enter Tryz.func84,Tryz.ntmps84
  go_wp2_with (go_at_call 94;refine k.mono ?_;rintro e w' ⟨rfl,rfl⟩)
  go_ret
  exact⟨rfl,rfl⟩
 | false=>
  rw [hb] at k;clear hb
  go_enter Tryz.func84,Tryz.ntmps84
  go_wp2_with (go_at_call 94;refine k.mono ?_;rintro e w' ⟨rfl,rfl⟩)
  go_ret
  exact⟨AL (show (v:Int)*2=((2*v+false.toNat:Nat):Int) by simp;omega),rfl⟩
end Go.Proofs.YtgccjgpdjkhpdaaGreat.B
