import Derived.Test.YtgccjgpdjkhpdaaGreatVErrors22
open List renaming getD_eq_getElem?_getD→Mw,getElem?_eq_getElem→Mx
/-! Own texts of this claim, part 35. -/
namespace Go.Proofs.YtgccjgpdjkhpdaaGreat.B
open Go.RowKit Go.Proofs.YtgccjgpdjkhpdaaGreatW.PrintWords Go.Proofs.YtgccjgpdjkhpdaaGreatW.PrintLast Go.Proofs.YtgccjgpdjkhpdaaGreatW.PrintMore
set_option linter.unusedVariables false
set_option linter.unusedSimpArgs false
theorem Js (ws:List Nat)(j k:Nat)(hj:j<ws.length)(hk:k<8):(aZ ws).getD (8*j+k) false=(ws.getD j 0).testBit (7-k):=by
 have h:=congrArg (fun l:List Bool=>l[0]?) (yH ws j k 1 hj (by omega));have e1:∀ (l:List Bool) (n:Nat),((l.drop n).take 1)[0]? = l[n]?:=by
  intro l n;rw [List.getElem?_take_of_lt (by decide),List.getElem?_drop,Nat.add_zero]
 unfold seg at h;simp only [e1] at h;rw [Mw,h];unfold jb;rw [List.getElem?_map,List.getElem?_range hk];rfl
theorem Jt (v m:Nat)(f:Nat->Nat->Bool)(ws:List Nat)(hv:1<=v/\v<=40)(hl:ws.length=bW v/8)(hs:ab 8 ws)
  (h:∀ (i:Nat) (p:Nat×Nat),(dW (17+4*v) (bM v (bA v)))[i]? = some p->f p.2 p.1=((aZ ws).getD i false != eB m p.2 p.1)):kH v m f=ws:=by
 have hw:∀ i,i<bW v->(oM v m f).getD i false=(aZ ws).getD i false:=by
  intro i hi;have hlt:i<(dW (17+4*v) (bM v (bA v))).length:=by rw [tT v hv];exact hi
  unfold oM fo;rw [Mw,List.getElem?_map,Mx hlt,Option.map_some,Option.getD_some];show (f _ _ != eB m _ _)=_;rw [h i _ (Mx hlt)];cases (aZ ws).getD i false<;>cases eB m _ _<;>rfl
 unfold kH;apply List.ext_getElem
 ·simp [hl]
 intro j h1 h2;rw [List.getElem_map,List.getElem_range];unfold kD;have e:∀ k,k<8->(oM v m f).getD (8*j+k) false=(ws.getD j 0).testBit (8-1-k):=by
  intro k hk;rw [hw _ (by omega),Js ws j k h2 hk]
 rw [mD 8 e,qp _ 8 (aF hs j),Mw,Mx h2];rfl
end Go.Proofs.YtgccjgpdjkhpdaaGreat.B
