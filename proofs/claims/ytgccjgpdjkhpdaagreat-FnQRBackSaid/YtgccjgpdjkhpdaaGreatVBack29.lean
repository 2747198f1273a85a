import Derived.Test.YtgccjgpdjkhpdaaGreatVBack16
import Derived.Test.YtgccjgpdjkhpdaaGreatVBack30
import Derived.Test.YtgccjgpdjkhpdaaGreatVBack31
/-! Own texts of this claim, part 29. -/
namespace Go.Proofs.YtgccjgpdjkhpdaaGreat.B
open Go.RowKit Go.Proofs.YtgccjgpdjkhpdaaGreatW.PrintWords Go.Proofs.YtgccjgpdjkhpdaaGreatW.PrintLast Go.Proofs.YtgccjgpdjkhpdaaGreatW.PrintMore
set_option linter.unusedVariables false
set_option linter.unusedSimpArgs false
theorem flat_len {α:Type}(n:Nat)(g:Nat->Nat->α):∀ a,((List.range a).flatMap fun i=>(List.range n).map (g i)).length=a*n:=by
 intro a
 induction a with
 | zero=>simp
 | succ a ih=>rw [List.range_succ,List.flatMap_append,List.length_append,ih];simp [Nat.add_mul]
theorem flat_get (n:Nat)(g:Nat->Nat->Nat)(i k:Nat)(hk:k<n):∀ a,i<a->((List.range a).flatMap fun i=>(List.range n).map (g i)).getD (i*n+k) 0=g i k:=by
 intro a
 induction a with
 | zero=>intro h;omega
 | succ a ih=>
  intro h
  rw [List.range_succ,List.flatMap_append,List.getD_eq_getElem?_getD]
  by_cases hi:i<a
  ·have hl:i*n+k<((List.range a).flatMap fun i=>(List.range n).map (g i)).length:=by
    rw [flat_len]
    exact mulAdd_lt hk hi
   rw [List.getElem?_append_left hl,<- List.getD_eq_getElem?_getD]
   exact ih hi
  ·obtain rfl:i=a:=by omega
   rw [List.getElem?_append_right (by rw [flat_len];omega),flat_len,show i*n+k-i*n=k by omega]
   simp [hk]
def mixedW (c d c2 e:Nat)(code:Nat->Nat->Nat):List Nat :=
 ((List.range (d+1)).flatMap fun i=>(List.range (c+c2)).flatMap fun k=>if i<dl c d k then [code k i] else [])++((List.range e).flatMap fun i=>(List.range (c+c2)).map fun k=>code k (dl c d k+i))
theorem flatMap_alike {α β:Type}(l:List α)(f g:α->List β)(h:∀ x∈l,f x=g x):l.flatMap f=l.flatMap g:=by
 induction l with
 | nil=>rfl
 | cons x l ih=>rw [List.flatMap_cons,List.flatMap_cons,h x (by simp),ih (fun y hy=>h y (by simp [hy]))]
theorem row_full (n:Nat)(p:Nat->Prop)[DecidablePred p](g:Nat->Nat)(h:∀ k,k<n->p k):((List.range n).flatMap fun k=>if p k then [g k] else [])=(List.range n).map g:=by
 rw [List.map_eq_flatMap]
 apply flatMap_alike
 intro k hk
 rw [if_pos (h k (List.mem_range.1 hk))]
theorem row_tail (c d:Nat)(g:Nat->Nat):∀ c2,((List.range (c+c2)).flatMap fun k=>if d<dl c d k then [g k] else [])=(List.range c2).map fun t=>g (c+t):=by
 intro c2
 induction c2 with
 | zero=>
  rw [Nat.add_zero,List.range_zero,List.map_nil,List.flatMap_eq_nil_iff]
  intro k hk
  rw [if_neg]
  unfold dl
  rw [if_pos (List.mem_range.1 hk)]
  omega
 | succ c2 ih=>
  rw [<- Nat.add_assoc,List.range_succ,List.flatMap_append,ih,List.range_succ,List.map_append]
  congr 1
  have:d<dl c d (c+c2):=by unfold dl;rw [if_neg (by omega)];omega
  simp [this]
theorem mixed_split (c d c2 e:Nat)(code:Nat->Nat->Nat):mixedW c d c2 e code =
  ((List.range d).flatMap fun i=>(List.range (c+c2)).map fun k=>code k i)++((List.range c2).map fun t=>code (c+t) d)++((List.range e).flatMap fun i=>(List.range (c+c2)).map fun k=>code k (dl c d k+i)):=by
 unfold mixedW
 congr 1
 rw [List.range_succ,List.flatMap_append]
 congr 1
 ·apply flatMap_alike
  intro i hi
  have hi:=List.mem_range.1 hi
  exact row_full (c+c2) (fun k=>i<dl c d k) (fun k=>code k i) (fun k _=>by unfold dl;split<;>omega)
 ·rw [List.flatMap_cons,List.flatMap_nil,List.append_nil]
  exact row_tail c d (fun k=>code k d) c2
theorem mixed_len (c d c2 e:Nat)(code:Nat->Nat->Nat):(mixedW c d c2 e code).length=d*(c+c2)+c2+e*(c+c2):=by
 rw [mixed_split,List.length_append,List.length_append,flat_len (c+c2) (fun i k=>code k i),flat_len (c+c2) (fun i k=>code k (dl c d k+i))]
 simp
theorem mixed_get (c d c2 e:Nat)(code:Nat->Nat->Nat)(j x:Nat)(hj:j<c+c2)(hx:x<dl c d j+e):(mixedW c d c2 e code).getD (posOf c d c2 j x) 0=code j x:=by
 have l1:=flat_len (c+c2) (fun i k=>code k i) d
 rw [mixed_split,List.getD_eq_getElem?_getD,List.append_assoc]
 unfold posOf
 by_cases h1:x<d
 ·rw [if_pos h1,List.getElem?_append_left (by rw [l1];exact mulAdd_lt hj h1),<- List.getD_eq_getElem?_getD]
  exact flat_get (c+c2) (fun i k=>code k i) x j hj d h1
 ·rw [if_neg h1]
  by_cases h2:x<dl c d j
  ·have h3:c<=j/\x=d:=by
    unfold dl at h2
    split at h2<;>omega
   rw [if_pos h2,List.getElem?_append_right (by rw [l1];omega),l1,show d*(c+c2)+(j-c)-d*(c+c2)=j-c by omega,List.getElem?_append_left (by simp;omega)]
   simp only [List.getElem?_map]
   rw [List.getElem?_range (by omega)]
   simp only [Option.map_some,Option.getD_some]
   rw [show c+(j-c)=j by omega,h3.2]
  ·rw [if_neg h2,List.getElem?_append_right (by rw [l1];omega),l1,List.getElem?_append_right (by simp;omega)]
   rw [show d*(c+c2)+c2+(x-dl c d j)*(c+c2)+j-d*(c+c2)-((List.range c2).map fun t=>code (c+t) d).length=(x-dl c d j)*(c+c2)+j by simp;omega,<- List.getD_eq_getElem?_getD]
   rw [flat_get (c+c2) (fun i k=>code k (dl c d k+i)) (x-dl c d j) j hj e (by omega)]
   rw [show dl c d j+(x-dl c d j)=x by omega]
theorem mixed_block (c d c2 e:Nat)(code:Nat->Nat->Nat)(j:Nat)(hj:j<c+c2):blockWords c d c2 e (mixedW c d c2 e code) j=(List.range (dl c d j+e)).map (code j):=by
 unfold blockWords
 apply List.map_congr_left
 intro x hx
 exact mixed_get c d c2 e code j x hj (List.mem_range.1 hx)
theorem w64n (i:Nat)(h:i<=4294967296):wrap64 ((i:Int)+1)=((i+1:Nat):Int):=by unfold wrap64;omega
def Sq (n i:Nat)(x:List (List Bool)):Prop:=x.length=n/\∀ y,y<i->(x.getD y []).length=n
theorem getD_set_rows (x:List (List Bool))(i j:Nat)(r:List Bool)(hi:i<x.length):(x.set i r).getD j []=if i=j then r else x.getD j []:=by
 rw [List.getD_eq_getElem?_getD,List.getD_eq_getElem?_getD,List.getElem?_set]
 by_cases e:i=j
 ·subst e;simp [hi]
 ·simp [e]
theorem Sq.set {n i:Nat}{x:List (List Bool)}(h:Sq n i x)(j:Nat)(r:List Bool)(hj:j<n)(hr:r.length=n):Sq n i (x.set j r):=by
 refine⟨by rw [List.length_set,h.1],fun y hy=>?_⟩
 rw [getD_set_rows _ _ _ _ (by rw [h.1];exact hj)]
 split
 ·exact hr
 ·exact h.2 y hy
theorem version_some (a:Nat)(h:a<256):F.laws_qrVersion.f (a:Int)=some ((1+a%40:Nat):Int):=by
 unfold F.laws_qrVersion.f
 have e1:wrap64 (a:Int)=(a:Int):=by unfold wrap64;omega
 rw [e1,Int.tmod_eq_emod_of_nonneg (by omega)]
 have e2:wrap64 (1+(a:Int)%40)=((1+a%40:Nat):Int):=by unfold wrap64;omega
 rw [e2]
end Go.Proofs.YtgccjgpdjkhpdaaGreat.B
