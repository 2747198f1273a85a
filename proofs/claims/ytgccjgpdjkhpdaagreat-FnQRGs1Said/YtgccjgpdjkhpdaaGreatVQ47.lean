import Derived.Test.YtgccjgpdjkhpdaaGreatVQ14
import Derived.Test.YtgccjgpdjkhpdaaGreatVQ22
/-! Own texts of this claim, part 47. -/
namespace Go.Proofs.YtgccjgpdjkhpdaaGreat.B
open Go.RowKit Go.Proofs.YtgccjgpdjkhpdaaGreatW.PrintWords Go.Proofs.YtgccjgpdjkhpdaaGreatW.PrintLast Go.Proofs.YtgccjgpdjkhpdaaGreatW.PrintMore
set_option linter.unusedVariables false
set_option linter.unusedSimpArgs false
theorem stream_bit (ws:List Nat)(j k:Nat)(hj:j<ws.length)(hk:k<8):(streamBits ws).getD (8*j+k) false=(ws.getD j 0).testBit (7-k):=by
 have h:=congrArg (fun l:List Bool=>l[0]?) (stream_seg ws j k 1 hj (by omega))
 have e1:∀ (l:List Bool) (n:Nat),((l.drop n).take 1)[0]? = l[n]?:=by
  intro l n
  rw [List.getElem?_take_of_lt (by decide),List.getElem?_drop,Nat.add_zero]
 unfold seg at h
 simp only [e1] at h
 rw [List.getD_eq_getElem?_getD,h]
 unfold byteBits
 rw [List.getElem?_map,List.getElem?_range hk]
 rfl
theorem words_said (v m:Nat)(f:Nat->Nat->Bool)(ws:List Nat)(hv:1<=v/\v<=40)(hl:ws.length=roomN v/8)(hs:AllLt 8 ws)
  (h:∀ (i:Nat) (p:Nat×Nat),(way (17+4*v) (fpB v (ctrs v)))[i]? = some p->f p.2 p.1=((streamBits ws).getD i false != maskB m p.2 p.1)):wordsOf v m f=ws:=by
 have hw:∀ i,i<roomN v->(wayBits v m f).getD i false=(streamBits ws).getD i false:=by
  intro i hi
  have hlt:i<(way (17+4*v) (fpB v (ctrs v))).length:=by rw [way_len v hv];exact hi
  unfold wayBits bitsAt
  rw [List.getD_eq_getElem?_getD,List.getElem?_map,List.getElem?_eq_getElem hlt,Option.map_some,Option.getD_some]
  show (f _ _ != maskB m _ _)=_
  rw [h i _ (List.getElem?_eq_getElem hlt)]
  cases (streamBits ws).getD i false<;>cases maskB m _ _<;>rfl
 unfold wordsOf
 apply List.ext_getElem
 ·simp [hl]
 ·intro j h1 h2
  rw [List.getElem_map,List.getElem_range]
  unfold byteAt
  have e:∀ k,k<8->(wayBits v m f).getD (8*j+k) false=(ws.getD j 0).testBit (8-1-k):=by
   intro k hk
   rw [hw _ (by omega),stream_bit ws j k h2 hk]
  rw [nacc_congr 8 e,nacc_num _ 8 (getD_lt hs j),List.getD_eq_getElem?_getD,List.getElem?_eq_getElem h2]
  rfl
end Go.Proofs.YtgccjgpdjkhpdaaGreat.B
