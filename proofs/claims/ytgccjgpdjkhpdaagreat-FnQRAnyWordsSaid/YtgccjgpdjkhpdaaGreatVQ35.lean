import Derived.Test.YtgccjgpdjkhpdaaGreatVQ25
/-! Own texts of this claim, part 35. -/
namespace Go.Proofs.YtgccjgpdjkhpdaaGreat.B
open Go.RowKit Go.Proofs.YtgccjgpdjkhpdaaGreatW.PrintWords Go.Proofs.YtgccjgpdjkhpdaaGreatW.PrintLast Go.Proofs.YtgccjgpdjkhpdaaGreatW.PrintMore
set_option linter.unusedVariables false
set_option linter.unusedSimpArgs false
theorem cell_on {w wx:World}{a:Addr}{v:Value}(hb:Below w.heap.size w wx)(h:w.cell? a=some v):wx.cell? a=some v:=(hb.cell (World.block_lt_of_cell? _ _ h)).trans h
def toSg (s:F.S98):Sg:=⟨s.f0.toNat,s.f1⟩
structure SegOK (s:F.S98)(v:Nat):Prop where
 mode:s.f0=1\/s.f0=2\/s.f0=4
 num:s.f0=1->∀ x∈s.f1,isDig x
 al:s.f0=2->∀ x∈s.f1,alNum x<45
 by_:∀ x∈s.f1,0<=x/\x<=255
 len:s.f1.length<2 ^ cntBits s.f0.toNat v
 short:s.f1.length<=2000
theorem SegOK.ok {s:F.S98}{v:Nat}(h:SegOK s v):(toSg s).Ok v:=by
 refine⟨?_,fun hm=>h.num ?_,fun hm=>h.al ?_,h.by_,h.len⟩
 ·rcases h.mode with e | e | e<;>simp [toSg,e]
 ·have hm:s.f0.toNat=1:=hm
  rcases h.mode with e | e | e<;>omega
 ·have hm:s.f0.toNat=2:=hm
  rcases h.mode with e | e | e<;>omega
structure SMem (w wr:World)(v6:Value)(bits:List Bool)(p:Nat)(m:Int)(A:Option Addr)(n c:Nat):Prop where
 own:BOwn wr w.heap.size v6 bits
 bel:Below w.heap.size w wr
 box:Blk wr p 98 #[.int .i64 m,.slice A n c]
theorem BOwn.under {w w':World}{base:Nat}{v:Value}{xs:List Bool}(h:BOwn w base v xs)(hb:Below w.heap.size w w'):BOwn w' base v xs:=own_move h fun k hk=>by
 obtain⟨cs,hc⟩:=own_blk h k hk
 exact hb.block k hc.lt
section
variable {w wr:World} {v6:Value} {bits:List Bool} {p:Nat} {m:Int} {A:Option Addr} {n c:Nat}
theorem SMem.under {w':World}(h:SMem w wr v6 bits p m A n c)(hb:Below wr.heap.size wr w'):SMem w w' v6 bits p m A n c :=
 ⟨h.own.under hb,h.bel.trans (hb.mono h.bel.size),h.box.below hb h.box.lt⟩
theorem SMem.drew (h:SMem w wr v6 bits p m A n c):SMem w wr.drew v6 bits p m A n c:=h.under ⟨rfl,rfl,rfl,Nat.le_refl _,fun _ _=>rfl⟩
end
end Go.Proofs.YtgccjgpdjkhpdaaGreat.B
