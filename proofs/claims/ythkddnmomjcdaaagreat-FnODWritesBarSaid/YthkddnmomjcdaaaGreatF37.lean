import Derived.Test.YthkddnmomjcdaaaGreatF0
namespace Go.Proofs.YthkddnmomjcdaaaGreat.F
open Go.RowKit Go.Proofs.YthkddnmomjcdaaaGreatW.PrintWords Go.Proofs.YthkddnmomjcdaaaGreatW.PrintLast Go.Proofs.YthkddnmomjcdaaaGreatW.PrintMore
attribute [local go_sem] max2_int min2_int max_two min_two max_three min_three max_four min_four   -- for this text's walks alone
set_option linter.unusedVariables false
set_option linter.unusedSimpArgs false

/-! ### spec_odBarBits: function 37 -/
def spec_odBarBits.f (a0 : Int) : Option (Int) := (some (([3, 6, 9, 96, 18, 66, 33, 36, 48, 72, 12, 24, 69, 81, 84, 21, 26, 41, 11, 14] : List Int) : List Int)).bind fun y199 => (if 0 ≤ a0 then (if a0 < (y199.length : Int) then (some (rd y199 a0)) else (none)) else (none))
set_option maxHeartbeats 8000000 in
set_option maxRecDepth 100000 in
theorem spec_odBarBits.calls (a0 : Int) (r : Int) (w : World) (h : spec_odBarBits.f a0 = some r) :
    Calls Tryz.prog 37 #[.int .i64 a0] w fun e w' => e = .returned (.int .i64 r) ∧ Below w.heap.size w w' := by
  have HB := Aside0.mk (Below.refl w.heap.size w)
  have H : ((some (([3, 6, 9, 96, 18, 66, 33, 36, 48, 72, 12, 24, 69, 81, 84, 21, 26, 41, 11, 14] : List Int) : List Int)).bind fun y199 => (if 0 ≤ a0 then (if a0 < (y199.length : Int) then (some (rd y199 a0)) else (none)) else (none))) = some r := h
  clear h
  obtain ⟨y199, hy199⟩ : ∃ y_ : List Int, y_ = (([3, 6, 9, 96, 18, 66, 33, 36, 48, 72, 12, 24, 69, 81, 84, 21, 26, 41, 11, 14] : List Int)) := ⟨_, rfl⟩
  replace H : (if 0 ≤ a0 then (if a0 < (y199.length : Int) then (some (rd y199 a0)) else (none)) else (none)) = some r := by first | (rw [hy199]; with_reducible exact H) | (have H2_ := (Option.bind_some _ _).symm.trans H; rw [hy199]; with_reducible exact H2_) | (have H2_ := (Option.bind_some _ _).symm.trans H; with_reducible exact H2_) | with_reducible exact H | (rw [hy199]; exact H) | exact H
  have Ny199 := Aside0.mk hy199
  clear hy199
  by_cases c2 : 0 ≤ a0
  · rw [if_pos c2] at H
    have c2b0 : decide (0 ≤ a0) = true := decide_eq_true c2
    clear c2
    by_cases c3 : a0 < (y199.length : Int)
    · rw [if_pos c3] at H
      have c3b0 : decide (a0 < (y199.length : Int)) = true := decide_eq_true c3
      clear c3
      obtain rfl := Option.some.inj H
      go_enter Tryz.func37, Tryz.ntmps37
      go_wp2_with (first | ((with_reducible refine gate_dst (N := 3) rfl ?_); refine Kd.R_lit (Kd.int .i64) _ 3 ?hg (N := 3) ?hd (xs := ([3, 6, 9, 96, 18, 66, 33, 36, 48, 72, 12, 24, 69, 81, 84, 21, 26, 41, 11, 14] : List Int)) (inner := [.int .i64 3, .int .i64 6, .int .i64 9, .int .i64 96, .int .i64 18, .int .i64 66, .int .i64 33, .int .i64 36, .int .i64 48, .int .i64 72, .int .i64 12, .int .i64 24, .int .i64 69, .int .i64 81, .int .i64 84, .int .i64 21, .int .i64 26, .int .i64 41, .int .i64 11, .int .i64 14]) (ok := fun _ => True) (okp := fun _ => True) ?hr ?hp (fun _ hk => hk) trivial (Below.refl _ _) (Nat.le_refl _) (by simp) ?_; (case hd => rfl); (case hg => rfl); (case hr => first | (go_simp; done) | (go_simp; rfl)); (case hp => exact (Reps.one (show Kd.M (Kd.int .i64) _ _ _ 3 [.int .i64 3] from rfl) (Reps.one (show Kd.M (Kd.int .i64) _ _ _ 6 [.int .i64 6] from rfl) (Reps.one (show Kd.M (Kd.int .i64) _ _ _ 9 [.int .i64 9] from rfl) (Reps.one (show Kd.M (Kd.int .i64) _ _ _ 96 [.int .i64 96] from rfl) (Reps.one (show Kd.M (Kd.int .i64) _ _ _ 18 [.int .i64 18] from rfl) (Reps.one (show Kd.M (Kd.int .i64) _ _ _ 66 [.int .i64 66] from rfl) (Reps.one (show Kd.M (Kd.int .i64) _ _ _ 33 [.int .i64 33] from rfl) (Reps.one (show Kd.M (Kd.int .i64) _ _ _ 36 [.int .i64 36] from rfl) (Reps.one (show Kd.M (Kd.int .i64) _ _ _ 48 [.int .i64 48] from rfl) (Reps.one (show Kd.M (Kd.int .i64) _ _ _ 72 [.int .i64 72] from rfl) (Reps.one (show Kd.M (Kd.int .i64) _ _ _ 12 [.int .i64 12] from rfl) (Reps.one (show Kd.M (Kd.int .i64) _ _ _ 24 [.int .i64 24] from rfl) (Reps.one (show Kd.M (Kd.int .i64) _ _ _ 69 [.int .i64 69] from rfl) (Reps.one (show Kd.M (Kd.int .i64) _ _ _ 81 [.int .i64 81] from rfl) (Reps.one (show Kd.M (Kd.int .i64) _ _ _ 84 [.int .i64 84] from rfl) (Reps.one (show Kd.M (Kd.int .i64) _ _ _ 21 [.int .i64 21] from rfl) (Reps.one (show Kd.M (Kd.int .i64) _ _ _ 26 [.int .i64 26] from rfl) (Reps.one (show Kd.M (Kd.int .i64) _ _ _ 41 [.int .i64 41] from rfl) (Reps.one (show Kd.M (Kd.int .i64) _ _ _ 11 [.int .i64 11] from rfl) (Reps.one (show Kd.M (Kd.int .i64) _ _ _ 14 [.int .i64 14] from rfl) (Reps.none _ _)))))))))))))))))))))); intro v200 w4 ho5 hb hg_ hnew_; clear hg_ hnew_; (first | rw [← Ny199.out] at ho5 | (simp only [Int.reduceToNat] at ho5; rw [← Ny199.out] at ho5)); have n0_ := Aside0.mk (Kd.R_lower ho5 (below_size (by repeat (first | (with_reducible first | exact HB.out | apply below_alloc | apply pw_below_drewN | apply below_drew1) | exact HB.out)))); have n1_ := Aside0.mk (below_step (by repeat (first | (with_reducible first | exact HB.out | apply below_alloc | apply pw_below_drewN | apply below_drew1) | exact HB.out)) hb); clear HB; have HO201 := n0_; have HB := n1_; clear n0_ n1_; clear hb ho5; obtain ⟨Ao6, co6, eo6⟩ := Kd.R_slice HO201.out; subst eo6; have p202 : 0 ≤ (a0 : Int) := of_decide_eq_true (by first | (with_reducible assumption) | assumption); have q202 : a0 < (y199.length : Int) := of_decide_eq_true (by first | (with_reducible assumption) | assumption); obtain ⟨ad202, e202, hx202_0⟩ := Kd.at_int (Kd.R_reads' HO201.out).2.2 a0 p202 q202; cases e202; replace p202 := eq_true p202; replace q202 := eq_true q202))
      go_ret
      exact ⟨by first | rfl | (simp [errW_none, errW_some] <;> rfl) | (simp [*, errW_none, errW_some] <;> rfl), by repeat (first | (with_reducible first | exact HB.out | apply below_alloc | apply pw_below_drewN | apply below_drew1) | exact HB.out)⟩
    · rw [if_neg c3] at H
      exact absurd H (by simp)
  · rw [if_neg c2] at H
    exact absurd H (by simp)

end Go.Proofs.YthkddnmomjcdaaaGreat.F
