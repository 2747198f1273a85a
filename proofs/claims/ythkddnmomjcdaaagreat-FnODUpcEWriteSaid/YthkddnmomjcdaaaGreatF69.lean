import Derived.Test.YthkddnmomjcdaaaGreatF0
namespace Go.Proofs.YthkddnmomjcdaaaGreat.F
open Go.RowKit Go.Proofs.YthkddnmomjcdaaaGreatW.PrintWords Go.Proofs.YthkddnmomjcdaaaGreatW.PrintLast Go.Proofs.YthkddnmomjcdaaaGreatW.PrintMore
attribute [local go_sem] max2_int min2_int max_two min_two max_three min_three max_four min_four   -- for this text's walks alone
set_option linter.unusedVariables false
set_option linter.unusedSimpArgs false

/-! ### spec_odSets: function 69 -/
def spec_odSets.f (a0 : Int) : Option (ByteArray) := (some (([(⟨#[65, 65, 65, 65, 65, 65]⟩ : ByteArray), (⟨#[65, 65, 66, 65, 66, 66]⟩ : ByteArray), (⟨#[65, 65, 66, 66, 65, 66]⟩ : ByteArray), (⟨#[65, 65, 66, 66, 66, 65]⟩ : ByteArray), (⟨#[65, 66, 65, 65, 66, 66]⟩ : ByteArray), (⟨#[65, 66, 66, 65, 65, 66]⟩ : ByteArray), (⟨#[65, 66, 66, 66, 65, 65]⟩ : ByteArray), (⟨#[65, 66, 65, 66, 65, 66]⟩ : ByteArray), (⟨#[65, 66, 65, 66, 66, 65]⟩ : ByteArray), (⟨#[65, 66, 66, 65, 66, 65]⟩ : ByteArray)] : List ByteArray) : List ByteArray)).bind fun y308 => (if 0 ≤ ((a0 - 48) % 256) then (if ((a0 - 48) % 256) < (y308.length : Int) then (some (rdOf ByteArray.empty y308 ((a0 - 48) % 256))) else (none)) else (none))
set_option maxHeartbeats 8000000 in
set_option maxRecDepth 100000 in
theorem spec_odSets.calls (a0 : Int) (r : ByteArray) (w : World) (h : spec_odSets.f a0 = some r) :
    Calls Tryz.prog 69 #[.int .u8 a0] w fun e w' => e = .returned (.string r) ∧ Below w.heap.size w w' := by
  have HB := Aside0.mk (Below.refl w.heap.size w)
  have H : ((some (([(⟨#[65, 65, 65, 65, 65, 65]⟩ : ByteArray), (⟨#[65, 65, 66, 65, 66, 66]⟩ : ByteArray), (⟨#[65, 65, 66, 66, 65, 66]⟩ : ByteArray), (⟨#[65, 65, 66, 66, 66, 65]⟩ : ByteArray), (⟨#[65, 66, 65, 65, 66, 66]⟩ : ByteArray), (⟨#[65, 66, 66, 65, 65, 66]⟩ : ByteArray), (⟨#[65, 66, 66, 66, 65, 65]⟩ : ByteArray), (⟨#[65, 66, 65, 66, 65, 66]⟩ : ByteArray), (⟨#[65, 66, 65, 66, 66, 65]⟩ : ByteArray), (⟨#[65, 66, 66, 65, 66, 65]⟩ : ByteArray)] : List ByteArray) : List ByteArray)).bind fun y308 => (if 0 ≤ ((a0 - 48) % 256) then (if ((a0 - 48) % 256) < (y308.length : Int) then (some (rdOf ByteArray.empty y308 ((a0 - 48) % 256))) else (none)) else (none))) = some r := h
  clear h
  obtain ⟨y308, hy308⟩ : ∃ y_ : List ByteArray, y_ = (([(⟨#[65, 65, 65, 65, 65, 65]⟩ : ByteArray), (⟨#[65, 65, 66, 65, 66, 66]⟩ : ByteArray), (⟨#[65, 65, 66, 66, 65, 66]⟩ : ByteArray), (⟨#[65, 65, 66, 66, 66, 65]⟩ : ByteArray), (⟨#[65, 66, 65, 65, 66, 66]⟩ : ByteArray), (⟨#[65, 66, 66, 65, 65, 66]⟩ : ByteArray), (⟨#[65, 66, 66, 66, 65, 65]⟩ : ByteArray), (⟨#[65, 66, 65, 66, 65, 66]⟩ : ByteArray), (⟨#[65, 66, 65, 66, 66, 65]⟩ : ByteArray), (⟨#[65, 66, 66, 65, 66, 65]⟩ : ByteArray)] : List ByteArray)) := ⟨_, rfl⟩
  replace H : (if 0 ≤ ((a0 - 48) % 256) then (if ((a0 - 48) % 256) < (y308.length : Int) then (some (rdOf ByteArray.empty y308 ((a0 - 48) % 256))) else (none)) else (none)) = some r := by first | (rw [hy308]; with_reducible exact H) | (have H2_ := (Option.bind_some _ _).symm.trans H; rw [hy308]; with_reducible exact H2_) | (have H2_ := (Option.bind_some _ _).symm.trans H; with_reducible exact H2_) | with_reducible exact H | (rw [hy308]; exact H) | exact H
  have Ny308 := Aside0.mk hy308
  clear hy308
  obtain ⟨ji2, hji2⟩ : ∃ j_ : Int, ((a0 - 48) % 256) = j_ := ⟨_, rfl⟩
  replace H : (if 0 ≤ (ji2) then (if (ji2) < (y308.length : Int) then (some (rdOf ByteArray.empty y308 (ji2))) else (none)) else (none)) = some r := by first | (rw [hji2] at H; exact H) | (simp only [hji2] at H ⊢; exact H)
  by_cases c3 : 0 ≤ (ji2)
  · rw [if_pos c3] at H
    have c3b0 : decide (0 ≤ (ji2)) = true := decide_eq_true c3
    clear c3
    by_cases c4 : (ji2) < (y308.length : Int)
    · rw [if_pos c4] at H
      have c4b0 : decide ((ji2) < (y308.length : Int)) = true := decide_eq_true c4
      clear c4
      obtain rfl := Option.some.inj H
      go_enter Tryz.func69, Tryz.ntmps69
      go_wp2_with (first | ((with_reducible refine gate_dst (N := 3) rfl ?_); refine Kd.R_lit Kd.string _ 9 ?hg (N := 3) ?hd (xs := ([(⟨#[65, 65, 65, 65, 65, 65]⟩ : ByteArray), (⟨#[65, 65, 66, 65, 66, 66]⟩ : ByteArray), (⟨#[65, 65, 66, 66, 65, 66]⟩ : ByteArray), (⟨#[65, 65, 66, 66, 66, 65]⟩ : ByteArray), (⟨#[65, 66, 65, 65, 66, 66]⟩ : ByteArray), (⟨#[65, 66, 66, 65, 65, 66]⟩ : ByteArray), (⟨#[65, 66, 66, 66, 65, 65]⟩ : ByteArray), (⟨#[65, 66, 65, 66, 65, 66]⟩ : ByteArray), (⟨#[65, 66, 65, 66, 66, 65]⟩ : ByteArray), (⟨#[65, 66, 66, 65, 66, 65]⟩ : ByteArray)] : List ByteArray)) (inner := [.string (⟨#[65, 65, 65, 65, 65, 65]⟩ : ByteArray), .string (⟨#[65, 65, 66, 65, 66, 66]⟩ : ByteArray), .string (⟨#[65, 65, 66, 66, 65, 66]⟩ : ByteArray), .string (⟨#[65, 65, 66, 66, 66, 65]⟩ : ByteArray), .string (⟨#[65, 66, 65, 65, 66, 66]⟩ : ByteArray), .string (⟨#[65, 66, 66, 65, 65, 66]⟩ : ByteArray), .string (⟨#[65, 66, 66, 66, 65, 65]⟩ : ByteArray), .string (⟨#[65, 66, 65, 66, 65, 66]⟩ : ByteArray), .string (⟨#[65, 66, 65, 66, 66, 65]⟩ : ByteArray), .string (⟨#[65, 66, 66, 65, 66, 65]⟩ : ByteArray)]) (ok := fun _ => True) (okp := fun _ => True) ?hr ?hp (fun _ hk => hk) trivial (Below.refl _ _) (Nat.le_refl _) (by simp) ?_; (case hd => rfl); (case hg => rfl); (case hr => first | (go_simp; done) | (go_simp; rfl)); (case hp => exact (Reps.one (show Kd.M Kd.string _ _ _ (⟨#[65, 65, 65, 65, 65, 65]⟩ : ByteArray) [.string (⟨#[65, 65, 65, 65, 65, 65]⟩ : ByteArray)] from rfl) (Reps.one (show Kd.M Kd.string _ _ _ (⟨#[65, 65, 66, 65, 66, 66]⟩ : ByteArray) [.string (⟨#[65, 65, 66, 65, 66, 66]⟩ : ByteArray)] from rfl) (Reps.one (show Kd.M Kd.string _ _ _ (⟨#[65, 65, 66, 66, 65, 66]⟩ : ByteArray) [.string (⟨#[65, 65, 66, 66, 65, 66]⟩ : ByteArray)] from rfl) (Reps.one (show Kd.M Kd.string _ _ _ (⟨#[65, 65, 66, 66, 66, 65]⟩ : ByteArray) [.string (⟨#[65, 65, 66, 66, 66, 65]⟩ : ByteArray)] from rfl) (Reps.one (show Kd.M Kd.string _ _ _ (⟨#[65, 66, 65, 65, 66, 66]⟩ : ByteArray) [.string (⟨#[65, 66, 65, 65, 66, 66]⟩ : ByteArray)] from rfl) (Reps.one (show Kd.M Kd.string _ _ _ (⟨#[65, 66, 66, 65, 65, 66]⟩ : ByteArray) [.string (⟨#[65, 66, 66, 65, 65, 66]⟩ : ByteArray)] from rfl) (Reps.one (show Kd.M Kd.string _ _ _ (⟨#[65, 66, 66, 66, 65, 65]⟩ : ByteArray) [.string (⟨#[65, 66, 66, 66, 65, 65]⟩ : ByteArray)] from rfl) (Reps.one (show Kd.M Kd.string _ _ _ (⟨#[65, 66, 65, 66, 65, 66]⟩ : ByteArray) [.string (⟨#[65, 66, 65, 66, 65, 66]⟩ : ByteArray)] from rfl) (Reps.one (show Kd.M Kd.string _ _ _ (⟨#[65, 66, 65, 66, 66, 65]⟩ : ByteArray) [.string (⟨#[65, 66, 65, 66, 66, 65]⟩ : ByteArray)] from rfl) (Reps.one (show Kd.M Kd.string _ _ _ (⟨#[65, 66, 66, 65, 66, 65]⟩ : ByteArray) [.string (⟨#[65, 66, 66, 65, 66, 65]⟩ : ByteArray)] from rfl) (Reps.none _ _)))))))))))); intro v309 w5 ho6 hb hg_ hnew_; clear hg_ hnew_; (first | rw [← Ny308.out] at ho6 | (simp only [Int.reduceToNat] at ho6; rw [← Ny308.out] at ho6)); have n0_ := Aside0.mk (Kd.R_lower ho6 (below_size (by repeat (first | (with_reducible first | exact HB.out | apply below_alloc | apply pw_below_drewN | apply below_drew1) | exact HB.out)))); have n1_ := Aside0.mk (below_step (by repeat (first | (with_reducible first | exact HB.out | apply below_alloc | apply pw_below_drewN | apply below_drew1) | exact HB.out)) hb); clear HB; have HO310 := n0_; have HB := n1_; clear n0_ n1_; clear hb ho6; obtain ⟨Ao7, co7, eo7⟩ := Kd.R_slice HO310.out; subst eo7; have p311 : 0 ≤ ((ji2) : Int) := of_decide_eq_true (by first | (with_reducible assumption) | assumption); have q311 : (ji2) < (y308.length : Int) := of_decide_eq_true (by first | (with_reducible assumption) | assumption); obtain ⟨ad311, e311, hx311_0⟩ := Kd.at_string (Kd.R_reads' HO310.out).2.2 (ji2) p311 q311; cases e311; replace p311 := eq_true p311; replace q311 := eq_true q311))
      go_ret
      exact ⟨by first | rfl | (simp [errW_none, errW_some] <;> rfl) | (simp only [← hji2]; first | rfl | (simp [errW_none, errW_some] <;> rfl)) | (simp [*, errW_none, errW_some] <;> rfl), by repeat (first | (with_reducible first | exact HB.out | apply below_alloc | apply pw_below_drewN | apply below_drew1) | exact HB.out)⟩
    · rw [if_neg c4] at H
      exact absurd H (by simp)
  · rw [if_neg c3] at H
    exact absurd H (by simp)

-- NOT PRINTED: function 44 (spec_ODModules)

-- NOT PRINTED: function 24 (laws_odWritten)

-- NOT PRINTED: function 6 (laws_FnODEan13Write)

end Go.Proofs.YthkddnmomjcdaaaGreat.F
