import Derived.Test.YthkddnmomjcdaaaGreatG
import Derived.Test.YthkddnmomjcdaaaGreatF38
namespace Go.Proofs.YthkddnmomjcdaaaGreat.B
open Go.RowKit Go.Proofs.YthkddnmomjcdaaaGreatW.PrintWords Go.Proofs.YthkddnmomjcdaaaGreatW.PrintLast Go.Proofs.YthkddnmomjcdaaaGreatW.PrintMore
set_option linter.unusedVariables false
set_option linter.unusedSimpArgs false

/-! ### The reference's bars -/
theorem bars_append (l m : List Int) (c : Bool) : bars c (l ++ m) = bars c l ++ bars (if l.length % 2 = 0 then c else !c) m := by
  induction l generalizing c with
  | nil => simp [bars]
  | cons a l ih =>
    simp only [List.cons_append, bars, ih, List.append_assoc, List.length_cons]
    congr 3
    by_cases h : l.length % 2 = 0
    · rw [if_pos h, if_neg (by omega)]
    · rw [if_neg h, if_pos (by omega)]; simp
theorem bars_even (l m : List Int) (h : l.length % 2 = 0) (c : Bool) : bars c (l ++ m) = bars c l ++ bars c m := by rw [bars_append, if_pos h]

theorem odBars_run (ps : List Int) (hp : ∀ p ∈ ps, 0 ≤ p ∧ p ≤ 1000) (hl : ps.length ≤ 1000000) :
    ∀ (qs done : List Int) (ys : List Bool), ps = done ++ qs → (ys.length : Int) + 1000 * qs.length ≤ 100000000000 → Ev (fun k => F.spec_ODBars.l0 k ps ys done.length) (ys ++ bars (done.length % 2 == 0) qs) := by
  intro qs
  induction qs with
  | nil =>
    intro done ys he hy
    refine Ev.step (f := fun _ => some ys) (fun k => ?_) ?_
    · rw [F.spec_ODBars.l0, if_neg (by rw [he]; simp)]
    · simpa [bars] using Ev.now ys
  | cons q qs ih =>
    intro done ys he hy
    have hq := hp q (by rw [he]; simp)
    have hlt : (done.length : Int) < ps.length := by rw [he]; simp; omega
    have hrd : rd ps done.length = q := by simp [rd, he]
    have hmod : (Int.tmod (done.length : Int) 2 == 0) = (done.length % 2 == 0) := by
      rw [Int.tmod_eq_emod_of_nonneg (by omega)]
      rw [Bool.eq_iff_iff, beq_iff_eq, beq_iff_eq]
      omega
    simp only [List.length_cons] at hy
    refine Ev.step (f := fun k => F.spec_ODBars.l1 k ps ys done.length 0) (fun k => ?_) ?_
    · rw [F.spec_ODBars.l0, if_pos hlt]
    · suffices H : ∀ (d : Nat) (j : Int) (zs : List Bool), 0 ≤ j → q - j = d → (zs.length : Int) + d + 1000 * qs.length ≤ 100000000000 → zs ++ List.replicate d (done.length % 2 == 0) = ys ++ List.replicate q.toNat (done.length % 2 == 0) → Ev (fun k => F.spec_ODBars.l1 k ps zs done.length j) (ys ++ bars (done.length % 2 == 0) (q :: qs)) from
        H q.toNat 0 ys (by omega) (by omega) (by omega) rfl
      intro d
      induction d with
      | zero =>
        intro j zs h0 hd hz hzz
        have h1 := ih (done ++ [q]) zs (by simp [he]) (by omega)
        refine Ev.step (f := fun k => F.spec_ODBars.l0 k ps zs ((done ++ [q]).length : Nat)) (fun k => ?_) ?_
        · rw [F.spec_ODBars.l1, if_pos (by omega), if_pos hlt, hrd, if_neg (by omega), show wrap64 ((done.length : Int) + 1) = ((done ++ [q]).length : Nat) by simp; unfold wrap64; omega]
        · simp only [List.replicate_zero, List.append_nil] at hzz
          rw [hzz] at h1
          have e : ((done ++ [q]).length % 2 == 0) = !(done.length % 2 == 0) := by
            rw [List.length_append, List.length_singleton]
            rcases Nat.mod_two_eq_zero_or_one done.length with h | h
            · rw [h, show (done.length + 1) % 2 = 1 by omega]; rfl
            · rw [h, show (done.length + 1) % 2 = 0 by omega]; rfl
          rw [e] at h1
          rw [hzz]
          simpa [bars] using h1
      | succ d ihd =>
        intro j zs h0 hd hz hzz
        refine Ev.step (f := fun k => F.spec_ODBars.l1 k ps (zs ++ [done.length % 2 == 0]) done.length (j + 1)) (fun k => ?_) ?_
        · rw [F.spec_ODBars.l1, if_pos (by omega), if_pos hlt, hrd, if_pos (by omega), if_pos (by omega), hmod, show wrap64 (j + 1) = j + 1 by unfold wrap64; omega]
        · exact ihd (j + 1) _ (by omega) (by omega) (by simp; omega) (by rw [← hzz]; simp [List.replicate_succ])

theorem odBars (ps : List Int) (hp : ∀ p ∈ ps, 0 ≤ p ∧ p ≤ 1000) (hl : ps.length ≤ 1000000) : Ev (fun k => F.spec_ODBars.f k ps) (bars true ps) := odBars_run ps hp hl ps [] [] rfl (by simp; omega)
end Go.Proofs.YthkddnmomjcdaaaGreat.B
