import Derived.Test.YtgccjgpdjkhpdaaGreatVQ44
/-! Own texts of this claim, part 48. -/
namespace Go.Proofs.YtgccjgpdjkhpdaaGreat.B
open Go.RowKit Go.Proofs.YtgccjgpdjkhpdaaGreatW.PrintWords Go.Proofs.YtgccjgpdjkhpdaaGreatW.PrintLast Go.Proofs.YtgccjgpdjkhpdaaGreatW.PrintMore
set_option linter.unusedVariables false
set_option linter.unusedSimpArgs false
theorem Brows.reads {w:World}{B g n:Nat}{q cp:Nat->Nat}{cf:Nat->Nat->Bool}(h:Brows w B g n q cp cf)(hn:n<=1000):BRows w (some ⟨g,0,none⟩) (rowsOfB n cf n):=by
 have hl:(rowsOfB n cf n).length=n:=rowsOfB_len n cf n
 unfold BRows
 rw [hl]
 refine⟨hl,by omega,fun _=>⟨_,rfl,fun j p hj=>?_⟩⟩
 have hjl:j<n:=by
  have:=(List.getElem?_eq_some_iff.1 hj).1
  rwa [hl] at this
 rw [rd_row n cf j hjl] at hj
 obtain rfl:=Option.some.inj hj
 obtain⟨k1,k2,k3,_,k5⟩:=h.row j hjl
 have hrl:(rowOfB n cf j).length=n:=by simp [rowOfB]
 refine⟨[.slice (some ⟨q j,0,none⟩) n (cp j)],rfl,⟨some ⟨q j,0,none⟩,cp j,by rw [hrl],by rw [hrl];exact k3,?_⟩,?_⟩
 ·refine Kd.C_of_reads (enc:=Value.bool) (d:=false) (h1:=fun _=>rfl) ⟨by rw [hrl],by rw [hrl];omega,fun hp=>⟨_,rfl,fun i hi=>?_⟩⟩
  rw [hrl] at hi
  rw [add_off,Nat.zero_add,k5 i hi,List.getD_eq_getElem?_getD]
  unfold rowOfB
  rw [List.getElem?_map,List.getElem?_range hi]
  rfl
 ·intro i u hu
  cases i with
  | zero=>
   obtain rfl:Value.slice (some ⟨q j,0,none⟩) n (cp j)=u:=by simpa using hu
   show w.cell? (Addr.add ⟨g,0,none⟩ (j*1+0))=_
   rw [add_off,Nat.zero_add,Nat.mul_one,Nat.add_zero]
   exact k1
  | succ i=>simp at hu
theorem decodeSym (w:World)(B g cap v l m:Nat)(q cp:Nat->Nat)(ws:List Nat)(cf:Nat->Nat->Bool)(st:PS)(hcap:17+4*v<=cap)
  (hbr:Brows w B g (17+4*v) q cp (putAll (modBit (streamBits (symWords v l ws)) m) (way (17+4*v) (fpB v (ctrs v))) 0 cf)) (hv:1<=v/\v<=40) (hl:l<4) (hm:m<8) (hn:ws.length=roomD v l) (hw:AllLt 8 ws)
  (hcf:∀ r c:Nat,r<17+4*v->c<17+4*v->CellIs ((fmtBits l m:Nat):Int) v r c (cf r c)) (hrd:Rd ws v ⟨0,[],[],false,-1,-1⟩ (some st)) :
  Calls Tryz.prog 12 #[.slice (some ⟨g,0,none⟩) (17+4*v) cap] w fun e w'=>∃ x,e=.returned (.tuple #[x,.bool true])/\DecIs w' w.heap.size l ws st x/\Below w.heap.size w w':=by
 obtain⟨S,hW⟩:=symOK_words v l m ws cf st hv hl hm hn hw hcf hrd
 have e1:(8*l+m)/8=l:=by omega
 have e2:(8*l+m)%8=m:=by omega
 have k:=said12 w v (8*l+m) (some ⟨g,0,none⟩) cap _ st S (hbr.reads (by omega)) (by rw [rowsOfB_len];exact hcap) (rowsOfB_square _ _ (by omega) (by omega))
 rw [e1,e2,hW,sym_data v l ws hv hl hn] at k
 exact k
end Go.Proofs.YtgccjgpdjkhpdaaGreat.B
