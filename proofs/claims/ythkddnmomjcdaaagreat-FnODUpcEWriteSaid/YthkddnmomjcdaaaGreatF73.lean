import Derived.Test.YthkddnmomjcdaaaGreatF0
namespace Go.Proofs.YthkddnmomjcdaaaGreat.F
open Go.RowKit Go.Proofs.YthkddnmomjcdaaaGreatW.PrintWords Go.Proofs.YthkddnmomjcdaaaGreatW.PrintLast Go.Proofs.YthkddnmomjcdaaaGreatW.PrintMore
attribute [local go_sem] max2_int min2_int max_two min_two max_three min_three max_four min_four   -- for this text's walks alone
set_option linter.unusedVariables false
set_option linter.unusedSimpArgs false

/-! ### spec_odWidths: function 73 -/
def spec_odWidths.f (a0 : Int) : Option (ByteArray) := (some (([(⟨#[51, 50, 49, 49]⟩ : ByteArray), (⟨#[50, 50, 50, 49]⟩ : ByteArray), (⟨#[50, 49, 50, 50]⟩ : ByteArray), (⟨#[49, 52, 49, 49]⟩ : ByteArray), (⟨#[49, 49, 51, 50]⟩ : ByteArray), (⟨#[49, 50, 51, 49]⟩ : ByteArray), (⟨#[49, 49, 49, 52]⟩ : ByteArray), (⟨#[49, 51, 49, 50]⟩ : ByteArray), (⟨#[49, 50, 49, 51]⟩ : ByteArray), (⟨#[51, 49, 49, 50]⟩ : ByteArray)] : List ByteArray) : List ByteArray)).bind fun y291 => (if 0 ≤ ((a0 - 48) % 256) then (if ((a0 - 48) % 256) < (y291.length : Int) then (some (rdOf ByteArray.empty y291 ((a0 - 48) % 256))) else (none)) else (none))
set_option maxHeartbeats 8000000 in
set_option maxRecDepth 100000 in
theorem spec_odWidths.calls (a0 : Int) (r : ByteArray) (w : World) (h : spec_odWidths.f a0 = some r) :
    Calls Tryz.prog 73 #[.int .u8 a0] w fun e w' => e = .returned (.string r) ∧ Below w.heap.size w w' := by
  have HB := Aside0.mk (Below.refl w.heap.size w)
  have H : ((some (([(⟨#[51, 50, 49, 49]⟩ : ByteArray), (⟨#[50, 50, 50, 49]⟩ : ByteArray), (⟨#[50, 49, 50, 50]⟩ : ByteArray), (⟨#[49, 52, 49, 49]⟩ : ByteArray), (⟨#[49, 49, 51, 50]⟩ : ByteArray), (⟨#[49, 50, 51, 49]⟩ : ByteArray), (⟨#[49, 49, 49, 52]⟩ : ByteArray), (⟨#[49, 51, 49, 50]⟩ : ByteArray), (⟨#[49, 50, 49, 51]⟩ : ByteArray), (⟨#[51, 49, 49, 50]⟩ : ByteArray)] : List ByteArray) : List ByteArray)).bind fun y291 => (if 0 ≤ ((a0 - 48) % 256) then (if ((a0 - 48) % 256) < (y291.length : Int) then (some (rdOf ByteArray.empty y291 ((a0 - 48) % 256))) else (none)) else (none))) = some r := h
  clear h
  obtain ⟨y291, hy291⟩ : ∃ y_ : List ByteArray, y_ = (([(⟨#[51, 50, 49, 49]⟩ : ByteArray), (⟨#[50, 50, 50, 49]⟩ : ByteArray), (⟨#[50, 49, 50, 50]⟩ : ByteArray), (⟨#[49, 52, 49, 49]⟩ : ByteArray), (⟨#[49, 49, 51, 50]⟩ : ByteArray), (⟨#[49, 50, 51, 49]⟩ : ByteArray), (⟨#[49, 49, 49, 52]⟩ : ByteArray), (⟨#[49, 51, 49, 50]⟩ : ByteArray), (⟨#[49, 50, 49, 51]⟩ : ByteArray), (⟨#[51, 49, 49, 50]⟩ : ByteArray)] : List ByteArray)) := ⟨_, rfl⟩
  replace H : (if 0 ≤ ((a0 - 48) % 256) then (if ((a0 - 48) % 256) < (y291.length : Int) then (some (rdOf ByteArray.empty y291 ((a0 - 48) % 256))) else (none)) else (none)) = some r := by first | (rw [hy291]; with_reducible exact H) | (have H2_ := (Option.bind_some _ _).symm.trans H; rw [hy291]; with_reducible exact H2_) | (have H2_ := (Option.bind_some _ _).symm.trans H; with_reducible exact H2_) | with_reducible exact H | (rw [hy291]; exact H) | exact H
  have Ny291 := Aside0.mk hy291
  clear hy291
  obtain ⟨ji2, hji2⟩ : ∃ j_ : Int, ((a0 - 48) % 256) = j_ := ⟨_, rfl⟩
  replace H : (if 0 ≤ (ji2) then (if (ji2) < (y291.length : Int) then (some (rdOf ByteArray.empty y291 (ji2))) else (none)) else (none)) = some r := by first | (rw [hji2] at H; exact H) | (simp only [hji2] at H ⊢; exact H)
  by_cases c3 : 0 ≤ (ji2)
  · rw [if_pos c3] at H
    have c3b0 : decide (0 ≤ (ji2)) = true := decide_eq_true c3
    clear c3
    by_cases c4 : (ji2) < (y291.length : Int)
    · rw [if_pos c4] at H
      have c4b0 : decide ((ji2) < (y291.length : Int)) = true := decide_eq_true c4
      clear c4
      obtain rfl := Option.some.inj H
      go_enter Tryz.func73, Tryz.ntmps73
      go_wp2_with (first | ((with_reducible refine gate_dst (N := 3) rfl ?_); refine Kd.R_lit Kd.string _ 9 ?hg (N := 3) ?hd (xs := ([(⟨#[51, 50, 49, 49]⟩ : ByteArray), (⟨#[50, 50, 50, 49]⟩ : ByteArray), (⟨#[50, 49, 50, 50]⟩ : ByteArray), (⟨#[49, 52, 49, 49]⟩ : ByteArray), (⟨#[49, 49, 51, 50]⟩ : ByteArray), (⟨#[49, 50, 51, 49]⟩ : ByteArray), (⟨#[49, 49, 49, 52]⟩ : ByteArray), (⟨#[49, 51, 49, 50]⟩ : ByteArray), (⟨#[49, 50, 49, 51]⟩ : ByteArray), (⟨#[51, 49, 49, 50]⟩ : ByteArray)] : List ByteArray)) (inner := [.string (⟨#[51, 50, 49, 49]⟩ : ByteArray), .string (⟨#[50, 50, 50, 49]⟩ : ByteArray), .string (⟨#[50, 49, 50, 50]⟩ : ByteArray), .string (⟨#[49, 52, 49, 49]⟩ : ByteArray), .string (⟨#[49, 49, 51, 50]⟩ : ByteArray), .string (⟨#[49, 50, 51, 49]⟩ : ByteArray), .string (⟨#[49, 49, 49, 52]⟩ : ByteArray), .string (⟨#[49, 51, 49, 50]⟩ : ByteArray), .string (⟨#[49, 50, 49, 51]⟩ : ByteArray), .string (⟨#[51, 49, 49, 50]⟩ : ByteArray)]) (ok := fun _ => True) (okp := fun _ => True) ?hr ?hp (fun _ hk => hk) trivial (Below.refl _ _) (Nat.le_refl _) (by simp) ?_; (case hd => rfl); (case hg => rfl); (case hr => first | (go_simp; done) | (go_simp; rfl)); (case hp => exact (Reps.one (show Kd.M Kd.string _ _ _ (⟨#[51, 50, 49, 49]⟩ : ByteArray) [.string (⟨#[51, 50, 49, 49]⟩ : ByteArray)] from rfl) (Reps.one (show Kd.M Kd.string _ _ _ (⟨#[50, 50, 50, 49]⟩ : ByteArray) [.string (⟨#[50, 50, 50, 49]⟩ : ByteArray)] from rfl) (Reps.one (show Kd.M Kd.string _ _ _ (⟨#[50, 49, 50, 50]⟩ : ByteArray) [.string (⟨#[50, 49, 50, 50]⟩ : ByteArray)] from rfl) (Reps.one (show Kd.M Kd.string _ _ _ (⟨#[49, 52, 49, 49]⟩ : ByteArray) [.string (⟨#[49, 52, 49, 49]⟩ : ByteArray)] from rfl) (Reps.one (show Kd.M Kd.string _ _ _ (⟨#[49, 49, 51, 50]⟩ : ByteArray) [.string (⟨#[49, 49, 51, 50]⟩ : ByteArray)] from rfl) (Reps.one (show Kd.M Kd.string _ _ _ (⟨#[49, 50, 51, 49]⟩ : ByteArray) [.string (⟨#[49, 50, 51, 49]⟩ : ByteArray)] from rfl) (Reps.one (show Kd.M Kd.string _ _ _ (⟨#[49, 49, 49, 52]⟩ : ByteArray) [.string (⟨#[49, 49, 49, 52]⟩ : ByteArray)] from rfl) (Reps.one (show Kd.M Kd.string _ _ _ (⟨#[49, 51, 49, 50]⟩ : ByteArray) [.string (⟨#[49, 51, 49, 50]⟩ : ByteArray)] from rfl) (Reps.one (show Kd.M Kd.string _ _ _ (⟨#[49, 50, 49, 51]⟩ : ByteArray) [.string (⟨#[49, 50, 49, 51]⟩ : ByteArray)] from rfl) (Reps.one (show Kd.M Kd.string _ _ _ (⟨#[51, 49, 49, 50]⟩ : ByteArray) [.string (⟨#[51, 49, 49, 50]⟩ : ByteArray)] from rfl) (Reps.none _ _)))))))))))); intro v292 w5 ho6 hb hg_ hnew_; clear hg_ hnew_; (first | rw [← Ny291.out] at ho6 | (simp only [Int.reduceToNat] at ho6; rw [← Ny291.out] at ho6)); have n0_ := Aside0.mk (Kd.R_lower ho6 (below_size (by repeat (first | (with_reducible first | exact HB.out | apply below_alloc | apply pw_below_drewN | apply below_drew1) | exact HB.out)))); have n1_ := Aside0.mk (below_step (by repeat (first | (with_reducible first | exact HB.out | apply below_alloc | apply pw_below_drewN | apply below_drew1) | exact HB.out)) hb); clear HB; have HO293 := n0_; have HB := n1_; clear n0_ n1_; clear hb ho6; obtain ⟨Ao7, co7, eo7⟩ := Kd.R_slice HO293.out; subst eo7; have p294 : 0 ≤ ((ji2) : Int) := of_decide_eq_true (by first | (with_reducible assumption) | assumption); have q294 : (ji2) < (y291.length : Int) := of_decide_eq_true (by first | (with_reducible assumption) | assumption); obtain ⟨ad294, e294, hx294_0⟩ := Kd.at_string (Kd.R_reads' HO293.out).2.2 (ji2) p294 q294; cases e294; replace p294 := eq_true p294; replace q294 := eq_true q294))
      go_ret
      exact ⟨by first | rfl | (simp [errW_none, errW_some] <;> rfl) | (simp only [← hji2]; first | rfl | (simp [errW_none, errW_some] <;> rfl)) | (simp [*, errW_none, errW_some] <;> rfl), by repeat (first | (with_reducible first | exact HB.out | apply below_alloc | apply pw_below_drewN | apply below_drew1) | exact HB.out)⟩
    · rw [if_neg c4] at H
      exact absurd H (by simp)
  · rw [if_neg c3] at H
    exact absurd H (by simp)

end Go.Proofs.YthkddnmomjcdaaaGreat.F
