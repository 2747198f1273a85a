import Derived.Test.YthkddnmomjcdaaaGreatF0
namespace Go.Proofs.YthkddnmomjcdaaaGreat.F
open Go.RowKit Go.Proofs.YthkddnmomjcdaaaGreatW.PrintWords Go.Proofs.YthkddnmomjcdaaaGreatW.PrintLast Go.Proofs.YthkddnmomjcdaaaGreatW.PrintMore
attribute [local go_sem] max2_int min2_int max_two min_two max_three min_three max_four min_four   -- for this text's walks alone
set_option linter.unusedVariables false
set_option linter.unusedSimpArgs false

/-! ### laws_odShort: function 41 -/
def laws_odShort.f (a0 : Int) (a1 : ByteArray) : Option (Bool) := if a0 = 15 then (some ((a1.size : Int) == 7)) else (some false)
set_option maxHeartbeats 8000000 in
set_option maxRecDepth 100000 in
theorem laws_odShort.calls (a0 : Int) (a1 : ByteArray) (r : Bool) (w : World) (h : laws_odShort.f a0 a1 = some r) :
    Calls Tryz.prog 41 #[.int .i64 a0, .string a1] w fun e w' => e = .returned (.bool r) ∧ Drawn0 w w' := by
  have H : (if a0 = 15 then (some ((a1.size : Int) == 7)) else (some false)) = some r := h
  clear h
  by_cases c3 : a0 = 15
  · rw [if_pos c3] at H
    have c3b0 : (a0 == 15) = true := beq_iff_eq.mpr c3
    have c3b1 : (a0 != 15) = false := bne_eq_false_iff_eq.mpr c3
    clear c3
    obtain rfl := Option.some.inj H
    go_enter Tryz.func41, Tryz.ntmps41
    go_wp2
    go_ret
    exact ⟨by first | rfl | (simp; done) | (simp [*]; done), by repeat (first | exact Drawn0.refl _ | apply Drawn0.step)⟩
  · rw [if_neg c3] at H
    have c3b0 : (a0 == 15) = false := beq_eq_false_iff_ne.mpr c3
    have c3b1 : (a0 != 15) = true := bne_iff_ne.mpr c3
    obtain rfl := Option.some.inj H
    go_enter Tryz.func41, Tryz.ntmps41
    go_wp2
    go_ret
    exact ⟨by first | rfl | (simp; done) | (simp [*]; done), by repeat (first | exact Drawn0.refl _ | apply Drawn0.step)⟩

end Go.Proofs.YthkddnmomjcdaaaGreat.F
