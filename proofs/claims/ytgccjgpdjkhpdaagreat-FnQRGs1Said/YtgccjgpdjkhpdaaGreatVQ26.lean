import Derived.Test.YtgccjgpdjkhpdaaGreatVQ5
/-! Own texts of this claim, part 26. -/
namespace Go.Proofs.YtgccjgpdjkhpdaaGreat.B
open Go.RowKit Go.Proofs.YtgccjgpdjkhpdaaGreatW.PrintWords Go.Proofs.YtgccjgpdjkhpdaaGreatW.PrintLast Go.Proofs.YtgccjgpdjkhpdaaGreatW.PrintMore
set_option linter.unusedVariables false
set_option linter.unusedSimpArgs false
def natBits (n k:Nat):List Bool:=(List.range k).map fun i=>n.testBit (k-1-i)
theorem natBits_len (n k:Nat):(natBits n k).length=k:=by simp [natBits]
theorem natBits_succ (n k:Nat):natBits n (k+1)=natBits (n/2) k++[n.testBit 0]:=by
 unfold natBits
 rw [List.range_succ,List.map_append]
 congr 1
 ·apply List.map_congr_left
  intro i hi
  have:=List.mem_range.1 hi
  rw [Nat.testBit_div_two,show k-1-i+1=k+1-1-i by omega]
 ·simp
def isDig (x:Int):Prop:=48<=x/\x<=57
def alNum (x:Int):Nat:=alTab.findIdx fun (y:Nat)=>(y:Int)==x
theorem alNum_look:∀ k:Fin 45,alNum (alCh k.val)=k.val:=by decide +kernel
theorem alCh_num (x:Int)(h:alNum x<45):alCh (alNum x)=x:=by
 have hl:alTab.length=45:=rfl
 have hx:=List.findIdx_getElem (w:=show List.findIdx (fun y:Nat=>(y:Int)==x) alTab<alTab.length by rw [hl];exact h)
 unfold alCh
 rw [List.getD_eq_getElem?_getD,List.getElem?_eq_getElem (by rw [hl];exact h),Option.getD_some]
 exact eq_of_beq hx
structure Sg where
 mode:Nat
 text:List Int
structure Sg.Ok (s:Sg)(v:Nat):Prop where
 mode:s.mode=1\/s.mode=2\/s.mode=4
 num:s.mode=1->∀ x∈s.text,isDig x
 al:s.mode=2->∀ x∈s.text,alNum x<45
 by_:∀ x∈s.text,0<=x/\x<=255
 len:s.text.length<2 ^ cntBits s.mode v
theorem own_nil' (w:World)(base:Nat):w.ownsRow base 5 1 (.slice none 0 0) ([]:List Int).length (nums .u8 []):=⟨rfl,.inl ⟨rfl,rfl⟩⟩
end Go.Proofs.YtgccjgpdjkhpdaaGreat.B
