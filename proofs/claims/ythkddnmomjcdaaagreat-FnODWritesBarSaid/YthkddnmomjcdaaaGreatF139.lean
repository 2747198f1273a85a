import Derived.Test.YthkddnmomjcdaaaGreatF0
namespace Go.Proofs.YthkddnmomjcdaaaGreat.F
open Go.RowKit Go.Proofs.YthkddnmomjcdaaaGreatW.PrintWords Go.Proofs.YthkddnmomjcdaaaGreatW.PrintLast Go.Proofs.YthkddnmomjcdaaaGreatW.PrintMore
attribute [local go_sem] max2_int min2_int max_two min_two max_three min_three max_four min_four   -- for this text's walks alone
set_option linter.unusedVariables false
set_option linter.unusedSimpArgs false

/-! ### oned_codabarReader_CHARACTER_ENCODINGS: function 139 -/
def oned_codabarReader_CHARACTER_ENCODINGS.f  : Option (List Int) := some (([3, 6, 9, 96, 18, 66, 33, 36, 48, 72, 12, 24, 69, 81, 84, 21, 26, 41, 11, 14] : List Int))
set_option maxHeartbeats 8000000 in
set_option maxRecDepth 100000 in
theorem oned_codabarReader_CHARACTER_ENCODINGS.calls  (r : List Int) (w : World) (h : oned_codabarReader_CHARACTER_ENCODINGS.f  = some r) :
    Calls Tryz.prog 139 #[] w fun e w' => ∃ v0_ : Value, e = .returned (v0_) ∧ Kd.R (Kd.int .i64) 3 w' w.heap.size (fun _ => True) v0_ r ∧ Below w.heap.size w w' := by
  have HB := Aside0.mk (Below.refl w.heap.size w)
  have H : (some (([3, 6, 9, 96, 18, 66, 33, 36, 48, 72, 12, 24, 69, 81, 84, 21, 26, 41, 11, 14] : List Int))) = some r := h
  clear h
  obtain ⟨y448, hy448⟩ : ∃ y_ : List Int, y_ = (([3, 6, 9, 96, 18, 66, 33, 36, 48, 72, 12, 24, 69, 81, 84, 21, 26, 41, 11, 14] : List Int)) := ⟨_, rfl⟩
  replace H : (some y448) = some r := by first | (rw [hy448]; with_reducible exact H) | (have H2_ := (Option.bind_some _ _).symm.trans H; rw [hy448]; with_reducible exact H2_) | (have H2_ := (Option.bind_some _ _).symm.trans H; with_reducible exact H2_) | with_reducible exact H | (rw [hy448]; exact H) | exact H
  have Ny448 := Aside0.mk hy448
  clear hy448
  obtain rfl := Option.some.inj H
  go_enter Tryz.func139, Tryz.ntmps139
  go_wp2_with (first | ((with_reducible refine gate_dst (N := 1) rfl ?_); refine Kd.R_lit (Kd.int .i64) _ 3 ?hg (N := 1) ?hd (xs := ([3, 6, 9, 96, 18, 66, 33, 36, 48, 72, 12, 24, 69, 81, 84, 21, 26, 41, 11, 14] : List Int)) (inner := [.int .i64 3, .int .i64 6, .int .i64 9, .int .i64 96, .int .i64 18, .int .i64 66, .int .i64 33, .int .i64 36, .int .i64 48, .int .i64 72, .int .i64 12, .int .i64 24, .int .i64 69, .int .i64 81, .int .i64 84, .int .i64 21, .int .i64 26, .int .i64 41, .int .i64 11, .int .i64 14]) (ok := fun _ => True) (okp := fun _ => True) ?hr ?hp (fun _ hk => hk) trivial (Below.refl _ _) (Nat.le_refl _) (by simp) ?_; (case hd => rfl); (case hg => rfl); (case hr => first | (go_simp; done) | (go_simp; rfl)); (case hp => exact (Reps.one (show Kd.M (Kd.int .i64) _ _ _ 3 [.int .i64 3] from rfl) (Reps.one (show Kd.M (Kd.int .i64) _ _ _ 6 [.int .i64 6] from rfl) (Reps.one (show Kd.M (Kd.int .i64) _ _ _ 9 [.int .i64 9] from rfl) (Reps.one (show Kd.M (Kd.int .i64) _ _ _ 96 [.int .i64 96] from rfl) (Reps.one (show Kd.M (Kd.int .i64) _ _ _ 18 [.int .i64 18] from rfl) (Reps.one (show Kd.M (Kd.int .i64) _ _ _ 66 [.int .i64 66] from rfl) (Reps.one (show Kd.M (Kd.int .i64) _ _ _ 33 [.int .i64 33] from rfl) (Reps.one (show Kd.M (Kd.int .i64) _ _ _ 36 [.int .i64 36] from rfl) (Reps.one (show Kd.M (Kd.int .i64) _ _ _ 48 [.int .i64 48] from rfl) (Reps.one (show Kd.M (Kd.int .i64) _ _ _ 72 [.int .i64 72] from rfl) (Reps.one (show Kd.M (Kd.int .i64) _ _ _ 12 [.int .i64 12] from rfl) (Reps.one (show Kd.M (Kd.int .i64) _ _ _ 24 [.int .i64 24] from rfl) (Reps.one (show Kd.M (Kd.int .i64) _ _ _ 69 [.int .i64 69] from rfl) (Reps.one (show Kd.M (Kd.int .i64) _ _ _ 81 [.int .i64 81] from rfl) (Reps.one (show Kd.M (Kd.int .i64) _ _ _ 84 [.int .i64 84] from rfl) (Reps.one (show Kd.M (Kd.int .i64) _ _ _ 21 [.int .i64 21] from rfl) (Reps.one (show Kd.M (Kd.int .i64) _ _ _ 26 [.int .i64 26] from rfl) (Reps.one (show Kd.M (Kd.int .i64) _ _ _ 41 [.int .i64 41] from rfl) (Reps.one (show Kd.M (Kd.int .i64) _ _ _ 11 [.int .i64 11] from rfl) (Reps.one (show Kd.M (Kd.int .i64) _ _ _ 14 [.int .i64 14] from rfl) (Reps.none _ _)))))))))))))))))))))); intro v449 w1 ho2 hb hg_ hnew_; clear hg_ hnew_; (first | rw [← Ny448.out] at ho2 | (simp only [Int.reduceToNat] at ho2; rw [← Ny448.out] at ho2)); have n0_ := Aside0.mk (Kd.R_lower ho2 (below_size (by repeat (first | (with_reducible first | exact HB.out | apply below_alloc | apply pw_below_drewN | apply below_drew1) | exact HB.out)))); have n1_ := Aside0.mk (below_step (by repeat (first | (with_reducible first | exact HB.out | apply below_alloc | apply pw_below_drewN | apply below_drew1) | exact HB.out)) hb); clear HB; have HO450 := n0_; have HB := n1_; clear n0_ n1_; clear hb ho2))
  go_ret
  exact ⟨_, by first | rfl | (simp [errW_none, errW_some] <;> rfl) | (simp [*, errW_none, errW_some] <;> rfl), by (with_reducible repeat (first | apply Kd.R_alloc | apply Kd.R_drewN | apply Kd.R_drew)); exact HO450.out, by repeat (first | (with_reducible first | exact HB.out | apply below_alloc | apply pw_below_drewN | apply below_drew1) | exact HB.out)⟩

-- NOT PRINTED: function 132 (oned_codabarEncoder_encodeWithHints)

end Go.Proofs.YthkddnmomjcdaaaGreat.F
