import Derived.Test.YthkddnmomjcdaaaGreatF0
namespace Go.Proofs.YthkddnmomjcdaaaGreat.F
open Go.RowKit Go.Proofs.YthkddnmomjcdaaaGreatW.PrintWords Go.Proofs.YthkddnmomjcdaaaGreatW.PrintLast Go.Proofs.YthkddnmomjcdaaaGreatW.PrintMore
attribute [local go_sem] max2_int min2_int max_two min_two max_three min_three max_four min_four   -- for this text's walks alone
set_option linter.unusedVariables false
set_option linter.unusedSimpArgs false

/-! ### oned_codabarWriter_START_END_CHARS: function 136 -/
def oned_codabarWriter_START_END_CHARS.f  : Option (List Int) := some (([65, 66, 67, 68] : List Int))
set_option maxHeartbeats 8000000 in
set_option maxRecDepth 100000 in
theorem oned_codabarWriter_START_END_CHARS.calls  (r : List Int) (w : World) (h : oned_codabarWriter_START_END_CHARS.f  = some r) :
    Calls Tryz.prog 136 #[] w fun e w' => ∃ v0_ : Value, e = .returned (v0_) ∧ Kd.R (Kd.int .u8) 5 w' w.heap.size (fun _ => True) v0_ r ∧ Below w.heap.size w w' := by
  have HB := Aside0.mk (Below.refl w.heap.size w)
  have H : (some (([65, 66, 67, 68] : List Int))) = some r := h
  clear h
  obtain ⟨y439, hy439⟩ : ∃ y_ : List Int, y_ = (([65, 66, 67, 68] : List Int)) := ⟨_, rfl⟩
  replace H : (some y439) = some r := by first | (rw [hy439]; with_reducible exact H) | (have H2_ := (Option.bind_some _ _).symm.trans H; rw [hy439]; with_reducible exact H2_) | (have H2_ := (Option.bind_some _ _).symm.trans H; with_reducible exact H2_) | with_reducible exact H | (rw [hy439]; exact H) | exact H
  have Ny439 := Aside0.mk hy439
  clear hy439
  obtain rfl := Option.some.inj H
  go_enter Tryz.func136, Tryz.ntmps136
  go_wp2_with (first | ((with_reducible refine gate_dst (N := 1) rfl ?_); refine Kd.R_lit (Kd.int .u8) _ 5 ?hg (N := 1) ?hd (xs := ([65, 66, 67, 68] : List Int)) (inner := [.int .u8 65, .int .u8 66, .int .u8 67, .int .u8 68]) (ok := fun _ => True) (okp := fun _ => True) ?hr ?hp (fun _ hk => hk) trivial (Below.refl _ _) (Nat.le_refl _) (by simp) ?_; (case hd => rfl); (case hg => rfl); (case hr => first | (go_simp; done) | (go_simp; rfl)); (case hp => exact (Reps.one (show Kd.M (Kd.int .u8) _ _ _ 65 [.int .u8 65] from rfl) (Reps.one (show Kd.M (Kd.int .u8) _ _ _ 66 [.int .u8 66] from rfl) (Reps.one (show Kd.M (Kd.int .u8) _ _ _ 67 [.int .u8 67] from rfl) (Reps.one (show Kd.M (Kd.int .u8) _ _ _ 68 [.int .u8 68] from rfl) (Reps.none _ _)))))); intro v440 w1 ho2 hb hg_ hnew_; clear hg_ hnew_; (first | rw [← Ny439.out] at ho2 | (simp only [Int.reduceToNat] at ho2; rw [← Ny439.out] at ho2)); have n0_ := Aside0.mk (Kd.R_lower ho2 (below_size (by repeat (first | (with_reducible first | exact HB.out | apply below_alloc | apply pw_below_drewN | apply below_drew1) | exact HB.out)))); have n1_ := Aside0.mk (below_step (by repeat (first | (with_reducible first | exact HB.out | apply below_alloc | apply pw_below_drewN | apply below_drew1) | exact HB.out)) hb); clear HB; have HO441 := n0_; have HB := n1_; clear n0_ n1_; clear hb ho2))
  go_ret
  exact ⟨_, by first | rfl | (simp [errW_none, errW_some] <;> rfl) | (simp [*, errW_none, errW_some] <;> rfl), by (with_reducible repeat (first | apply Kd.R_alloc | apply Kd.R_drewN | apply Kd.R_drew)); exact HO441.out, by repeat (first | (with_reducible first | exact HB.out | apply below_alloc | apply pw_below_drewN | apply below_drew1) | exact HB.out)⟩

end Go.Proofs.YthkddnmomjcdaaaGreat.F
