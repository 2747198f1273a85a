import Derived.Test.YthkddnmomjcdaaaGreatMC1280
namespace Go.Proofs.YthkddnmomjcdaaaGreat.F
open Go.RowKit Go.Proofs.YthkddnmomjcdaaaGreatW.PrintWords Go.Proofs.YthkddnmomjcdaaaGreatW.PrintLast Go.Proofs.YthkddnmomjcdaaaGreatW.PrintMore
attribute [local go_sem] max2_int min2_int max_two min_two max_three min_three max_four min_four   -- for this text's walks alone
set_option linter.unusedVariables false
set_option linter.unusedSimpArgs false

/-! ### oned_code128FindCType: function 157 -/
def oned_code128FindCType.j0 : Nat → List Int → Int → Int → Bool → Option (Int)
  | 0, _, _, _, _ => none
  | k + 1, x0, x1, x5, x23 => if x23 = true then (some 0) else (if (wrap64 (x1 + 1)) ≥ x5 then (some 1) else (if 0 ≤ (wrap64 (x1 + 1)) then (if (wrap64 (x1 + 1)) < (x0.length : Int) then (if (rd x0 (wrap64 (x1 + 1))) < 48 then (some 1) else (if (rd x0 (wrap64 (x1 + 1))) > 57 then (some 1) else (some 2))) else (none)) else (none)))
def oned_code128FindCType.f (k : Nat) (l0 : List Int) (a1 : Int) : Option (Int) := if a1 ≥ (l0.length : Int) then (some 0) else (if 0 ≤ a1 then (if a1 < (l0.length : Int) then (if (rd l0 a1) = 241 then (some 3) else (if (rd l0 a1) < 48 then (oned_code128FindCType.j0 k l0 a1 (l0.length : Int) true) else (oned_code128FindCType.j0 k l0 a1 (l0.length : Int) (decide ((rd l0 a1) > 57))))) else (none)) else (none))
theorem oned_code128FindCType.mono_l : ∀ k, (∀ y0 y1 y2 y3, LeO (oned_code128FindCType.j0 k y0 y1 y2 y3) (oned_code128FindCType.j0 (k + 1) y0 y1 y2 y3))
  | 0 => fun _ _ _ _ r h => by simp [oned_code128FindCType.j0] at h
  | k + 1 => by
    have ih0 := oned_code128FindCType.mono_l k
    · intro y0 y1 y2 y3
      unfold oned_code128FindCType.j0
      repeat' first
      | (with_reducible exact ih0 _ _ _ _)
      | (with_reducible exact LeO.refl _)
      | (with_reducible exact LeO.none _)
      | (with_reducible refine LeO.ite ?_ ?_)
      | (with_reducible refine LeO.bind ?_ (fun _ => ?_))
      | exact ih0 _ _ _ _
      | exact LeO.none _
      | refine LeO.ite ?_ ?_
      | refine LeO.bind ?_ (fun _ => ?_)
theorem oned_code128FindCType.mono : ∀ a0 a1 k, LeO (oned_code128FindCType.f k a0 a1) (oned_code128FindCType.f (k + 1) a0 a1) := by
  intro a0 a1 k
  have ih0 := oned_code128FindCType.mono_l k
  unfold oned_code128FindCType.f
  repeat' first
      | (with_reducible exact ih0 _ _ _ _)
      | (with_reducible exact LeO.refl _)
      | (with_reducible exact LeO.none _)
      | (with_reducible refine LeO.ite ?_ ?_)
      | (with_reducible refine LeO.bind ?_ (fun _ => ?_))
      | exact ih0 _ _ _ _
      | exact LeO.none _
      | refine LeO.ite ?_ ?_
      | refine LeO.bind ?_ (fun _ => ?_)
set_option maxHeartbeats 8000000 in
set_option maxRecDepth 100000 in
theorem oned_code128FindCType.calls (k : Nat) (A0 : Option Addr) (c0 : Nat) (l0 : List Int) (a1 : Int) (r : Int) (w : World) (hr0 : Kd.C (Kd.int .i32) w A0 l0.length l0) (hc0 : l0.length ≤ c0) (h : oned_code128FindCType.f k l0 a1 = some r) :
    Calls Tryz.prog 157 #[.slice A0 l0.length c0, .int .i64 a1] w fun e w' => e = .returned (.int .i64 r) ∧ Drawn0 w w' := by
  have HR0 := Aside0.mk hr0
  have HC0 := Aside0.mk hc0
  clear hr0 hc0
  have H : (if a1 ≥ (l0.length : Int) then (some 0) else (if 0 ≤ a1 then (if a1 < (l0.length : Int) then (if (rd l0 a1) = 241 then (some 3) else (if (rd l0 a1) < 48 then (oned_code128FindCType.j0 k l0 a1 (l0.length : Int) true) else (oned_code128FindCType.j0 k l0 a1 (l0.length : Int) (decide ((rd l0 a1) > 57))))) else (none)) else (none))) = some r := h
  clear h
  by_cases c3 : a1 ≥ (l0.length : Int)
  · rw [if_pos c3] at H
    have c3b0 : decide ((l0.length : Int) ≤ a1) = true := decide_eq_true c3
    clear c3
    obtain rfl := Option.some.inj H
    go_enter Tryz.func157, Tryz.ntmps157
    go_wp2
    go_ret
    exact ⟨by first | rfl | (simp; done) | (simp [*]; done), by repeat (first | exact Drawn0.refl _ | apply Drawn0.step)⟩
  · rw [if_neg c3] at H
    have c3b0 : decide ((l0.length : Int) ≤ a1) = false := decide_eq_false c3
    clear c3
    by_cases c4 : 0 ≤ a1
    · rw [if_pos c4] at H
      have c4b0 : decide (0 ≤ a1) = true := decide_eq_true c4
      clear c4
      by_cases c5 : a1 < (l0.length : Int)
      · rw [if_pos c5] at H
        have c5b0 : decide (a1 < (l0.length : Int)) = true := decide_eq_true c5
        clear c5
        by_cases c6 : (rd l0 a1) = 241
        · rw [if_pos c6] at H
          have c6b0 : ((rd l0 a1) == 241) = true := beq_iff_eq.mpr c6
          have c6b1 : ((rd l0 a1) != 241) = false := bne_eq_false_iff_eq.mpr c6
          clear c6
          obtain rfl := Option.some.inj H
          have p532 : 0 ≤ (a1 : Int) := of_decide_eq_true (by first | (with_reducible assumption) | assumption)
          have q532 : a1 < (l0.length : Int) := of_decide_eq_true (by first | (with_reducible assumption) | assumption)
          obtain ⟨ad532, e532, hx532_0⟩ := Kd.at_int HR0.out a1 p532 q532
          cases e532
          replace p532 := eq_true p532
          replace q532 := eq_true q532
          go_enter Tryz.func157, Tryz.ntmps157
          go_wp2
          go_ret
          exact ⟨by first | rfl | (simp; done) | (simp [*]; done), by repeat (first | exact Drawn0.refl _ | apply Drawn0.step)⟩
        · rw [if_neg c6] at H
          have c6b0 : ((rd l0 a1) == 241) = false := beq_eq_false_iff_ne.mpr c6
          have c6b1 : ((rd l0 a1) != 241) = true := bne_iff_ne.mpr c6
          have HC7 := Aside0.mk H
          clear H
          have p532 : 0 ≤ (a1 : Int) := of_decide_eq_true (by first | (with_reducible assumption) | assumption)
          have q532 : a1 < (l0.length : Int) := of_decide_eq_true (by first | (with_reducible assumption) | assumption)
          obtain ⟨ad532, e532, hx532_0⟩ := Kd.at_int HR0.out a1 p532 q532
          cases e532
          replace p532 := eq_true p532
          replace q532 := eq_true q532
          go_enter Tryz.func157, Tryz.ntmps157
          go_upto_region 7 with (fail)
          go_cut [23] (fun v23 wc => ∃ (kq : Nat) (x23_6 : Bool), v23 = .bool x23_6 ∧ Aside0 (oned_code128FindCType.j0 kq l0 a1 (l0.length : Int) x23_6 = some r) ∧ Aside0 (kq ≤ k) ∧ Drawn0 w wc)
          case first =>
            have H := HC7.out
            clear HC7
            by_cases c8 : (rd l0 a1) < 48
            · rw [if_pos c8] at H
              have c8b0 : decide ((rd l0 a1) < 48) = true := decide_eq_true c8
              clear c8
              (first | rw [c8b0] | (simp only [i64_w, i32_w]; rw [c8b0]) | skip)
              have H' := Aside0.mk H
              clear H
              go_wp2
              go_meet
              case rel => exact ⟨_, (true), (by first | rfl | (simp; done) | (simp [*]; done)), H', ⟨by first | omega | exact Nat.le_refl _⟩, by repeat (first | exact Drawn0.refl _ | apply Drawn0.step)⟩
            · rw [if_neg c8] at H
              have c8b0 : decide ((rd l0 a1) < 48) = false := decide_eq_false c8
              clear c8
              (first | rw [c8b0] | (simp only [i64_w, i32_w]; rw [c8b0]) | skip)
              have H' := Aside0.mk H
              clear H
              go_wp2
              go_meet
              case rel => exact ⟨_, (decide ((rd l0 a1) > 57)), (by first | rfl | (simp; done) | (simp [*]; done)), H', ⟨by first | omega | exact Nat.le_refl _⟩, by repeat (first | exact Drawn0.refl _ | apply Drawn0.step)⟩
          case rest =>
            clear HC7
            try clear c1
            try clear p2
            try clear c3
            try clear c3b0
            try clear c4
            try clear c4b0
            try clear c5
            try clear c5b0
            try clear p5
            try clear q5
            try clear hx5
            try clear c6
            try clear c6b0
            try clear c6b1
            try clear c8
            try clear c8b0
            try clear hx532_0
            try clear p532
            try clear q532
            obtain ⟨kq, x23_6, rfl, HA, HJ6, ⟨mc6, rfl⟩⟩ := hcut
            cases kq with
            | zero => exact absurd HA.out (by simp [oned_code128FindCType.j0])
            | succ kj6 =>
              have H := HA.out
              clear HA
              simp only [oned_code128FindCType.j0] at H
              by_cases c9 : x23_6 = true
              · subst c9
                have H1 : (some 0) = some r := by rw [if_pos rfl] at H; exact H
                clear H
                have H := H1
                clear H1
                obtain rfl := Option.some.inj H
                go_wp2
                go_ret
                exact ⟨by first | rfl | (simp; done) | (simp [*]; done), by repeat (first | exact Drawn0.refl _ | apply Drawn0.step)⟩
              · replace c9 := Bool.eq_false_iff.mpr c9
                subst c9
                have H1 : (if (wrap64 (a1 + 1)) ≥ (l0.length : Int) then (some 1) else (if 0 ≤ (wrap64 (a1 + 1)) then (if (wrap64 (a1 + 1)) < (l0.length : Int) then (if (rd l0 (wrap64 (a1 + 1))) < 48 then (some 1) else (if (rd l0 (wrap64 (a1 + 1))) > 57 then (some 1) else (some 2))) else (none)) else (none))) = some r := by rw [if_neg (show ¬ (false = true) by decide)] at H; exact H
                clear H
                have H := H1
                clear H1
                by_cases c10 : (wrap64 (a1 + 1)) ≥ (l0.length : Int)
                · rw [if_pos c10] at H
                  have c10b0 : decide ((l0.length : Int) ≤ (wrap64 (a1 + 1))) = true := decide_eq_true c10
                  clear c10
                  obtain rfl := Option.some.inj H
                  go_wp2
                  go_ret
                  exact ⟨by first | rfl | (simp; done) | (simp [*]; done), by repeat (first | exact Drawn0.refl _ | apply Drawn0.step)⟩
                · rw [if_neg c10] at H
                  have c10b0 : decide ((l0.length : Int) ≤ (wrap64 (a1 + 1))) = false := decide_eq_false c10
                  clear c10
                  obtain ⟨ji11, hji11⟩ : ∃ j_ : Int, (wrap64 (a1 + 1)) = j_ := ⟨_, rfl⟩
                  replace H : (if 0 ≤ (ji11) then (if (ji11) < (l0.length : Int) then (if (rd l0 (ji11)) < 48 then (some 1) else (if (rd l0 (ji11)) > 57 then (some 1) else (some 2))) else (none)) else (none)) = some r := by first | (rw [hji11] at H; exact H) | (simp only [hji11] at H ⊢; exact H)
                  (try rw [hji11] at c10b0)
                  have hji11w : (IntKind.i64.wrap (a1 + 1)) = ji11 := (i64_w _).trans hji11
                  by_cases c12 : 0 ≤ (ji11)
                  · rw [if_pos c12] at H
                    have c12b0 : decide (0 ≤ (ji11)) = true := decide_eq_true c12
                    clear c12
                    by_cases c13 : (ji11) < (l0.length : Int)
                    · rw [if_pos c13] at H
                      have c13b0 : decide ((ji11) < (l0.length : Int)) = true := decide_eq_true c13
                      clear c13
                      by_cases c14 : (rd l0 (ji11)) < 48
                      · rw [if_pos c14] at H
                        have c14b0 : decide ((rd l0 (ji11)) < 48) = true := decide_eq_true c14
                        clear c14
                        obtain rfl := Option.some.inj H
                        have p533 : 0 ≤ ((ji11) : Int) := of_decide_eq_true (by first | (with_reducible assumption) | assumption)
                        have q533 : (ji11) < (l0.length : Int) := of_decide_eq_true (by first | (with_reducible assumption) | assumption)
                        obtain ⟨ad533, e533, hx533_0⟩ := Kd.at_int HR0.out (ji11) p533 q533
                        obtain rfl : ad532 = ad533 := (by injection e533)
                        replace p533 := eq_true p533
                        replace q533 := eq_true q533
                        go_wp2
                        go_ret
                        exact ⟨by first | rfl | (simp; done) | (simp only [← hji11] <;> (first | rfl | simp)) | (simp [*]; done), by repeat (first | exact Drawn0.refl _ | apply Drawn0.step)⟩
                      · rw [if_neg c14] at H
                        have c14b0 : decide ((rd l0 (ji11)) < 48) = false := decide_eq_false c14
                        clear c14
                        by_cases c15 : (rd l0 (ji11)) > 57
                        · rw [if_pos c15] at H
                          have c15b0 : decide (57 < (rd l0 (ji11))) = true := decide_eq_true c15
                          clear c15
                          obtain rfl := Option.some.inj H
                          have p533 : 0 ≤ ((ji11) : Int) := of_decide_eq_true (by first | (with_reducible assumption) | assumption)
                          have q533 : (ji11) < (l0.length : Int) := of_decide_eq_true (by first | (with_reducible assumption) | assumption)
                          obtain ⟨ad533, e533, hx533_0⟩ := Kd.at_int HR0.out (ji11) p533 q533
                          obtain rfl : ad532 = ad533 := (by injection e533)
                          replace p533 := eq_true p533
                          replace q533 := eq_true q533
                          go_wp2
                          go_ret
                          exact ⟨by first | rfl | (simp; done) | (simp only [← hji11] <;> (first | rfl | simp)) | (simp [*]; done), by repeat (first | exact Drawn0.refl _ | apply Drawn0.step)⟩
                        · rw [if_neg c15] at H
                          have c15b0 : decide (57 < (rd l0 (ji11))) = false := decide_eq_false c15
                          clear c15
                          obtain rfl := Option.some.inj H
                          have p533 : 0 ≤ ((ji11) : Int) := of_decide_eq_true (by first | (with_reducible assumption) | assumption)
                          have q533 : (ji11) < (l0.length : Int) := of_decide_eq_true (by first | (with_reducible assumption) | assumption)
                          obtain ⟨ad533, e533, hx533_0⟩ := Kd.at_int HR0.out (ji11) p533 q533
                          obtain rfl : ad532 = ad533 := (by injection e533)
                          replace p533 := eq_true p533
                          replace q533 := eq_true q533
                          go_wp2
                          go_ret
                          exact ⟨by first | rfl | (simp; done) | (simp only [← hji11] <;> (first | rfl | simp)) | (simp [*]; done), by repeat (first | exact Drawn0.refl _ | apply Drawn0.step)⟩
                    · rw [if_neg c13] at H
                      exact absurd H (by simp)
                  · rw [if_neg c12] at H
                    exact absurd H (by simp)
      · rw [if_neg c5] at H
        exact absurd H (by simp)
    · rw [if_neg c4] at H
      exact absurd H (by simp)

/-! ### oned_code128ChooseCode: function 155 -/
mutual
def oned_code128ChooseCode.j0 : Nat → List Int → Int → Int → Int → Bool → Option (Int)
  | 0, _, _, _, _, _ => none
  | k + 1, x0, x1, x2, x7, x50 => if x50 = true then (some 101) else (if x2 = 99 then (some 99) else (if x2 = 100 then (if x7 = 3 then (some 100) else ((oned_code128FindCType.f k x0 (wrap64 (x1 + 2))).bind fun t536 => (if t536 = 0 then (oned_code128ChooseCode.j1 k x0 x1 t536 true) else (oned_code128ChooseCode.j1 k x0 x1 t536 (t536 == 1))))) else (if x7 = 3 then ((oned_code128FindCType.f k x0 (wrap64 (x1 + 1))).bind fun t539 => (if t539 = 2 then (some 99) else (some 100))) else (if x7 = 2 then (some 99) else (some 100)))))
def oned_code128ChooseCode.j1 : Nat → List Int → Int → Int → Bool → Option (Int)
  | 0, _, _, _, _ => none
  | k + 1, x0, x1, x7, x66 => if x66 = true then (some 100) else (if x7 = 3 then ((oned_code128FindCType.f k x0 (wrap64 (x1 + 3))).bind fun t537 => (if t537 = 2 then (some 99) else (some 100))) else (oned_code128ChooseCode.l0 k x0 (wrap64 (x1 + 4))))
def oned_code128ChooseCode.l0 : Nat → List Int → Int → Option (Int)
  | 0, _, _ => none
  | k + 1, x0, x9 => (oned_code128FindCType.f k x0 x9).bind fun t538 => (if t538 = 2 then (oned_code128ChooseCode.l0 k x0 (wrap64 (x9 + 2))) else (if t538 = 1 then (some 100) else (some 99)))
end
def oned_code128ChooseCode.f (k : Nat) (l0 : List Int) (a1 : Int) (a2 : Int) : Option (Int) := (oned_code128FindCType.f k l0 a1).bind fun t534 => (if t534 = 1 then (if a2 = 101 then (some 101) else (some 100)) else (if t534 = 0 then (if a1 < (l0.length : Int) then (if 0 ≤ a1 then (if (rd l0 a1) < 32 then (some 101) else (if a2 = 101 then (if (rd l0 a1) < 96 then (some 101) else (if (rd l0 a1) ≥ 241 then (if (rd l0 a1) ≤ 244 then (some 101) else (some 100)) else (some 100))) else (some 100))) else (none)) else (some 100)) else (if a2 = 101 then (oned_code128ChooseCode.j0 k l0 a1 a2 t534 (t534 == 3)) else (oned_code128ChooseCode.j0 k l0 a1 a2 t534 false))))
theorem oned_code128ChooseCode.mono_l : ∀ k, (∀ y0 y1 y2 y3 y4, LeO (oned_code128ChooseCode.j0 k y0 y1 y2 y3 y4) (oned_code128ChooseCode.j0 (k + 1) y0 y1 y2 y3 y4)) ∧ (∀ y0 y1 y2 y3, LeO (oned_code128ChooseCode.j1 k y0 y1 y2 y3) (oned_code128ChooseCode.j1 (k + 1) y0 y1 y2 y3)) ∧ (∀ y0 y1, LeO (oned_code128ChooseCode.l0 k y0 y1) (oned_code128ChooseCode.l0 (k + 1) y0 y1))
  | 0 => ⟨fun _ _ _ _ _ r h => by simp [oned_code128ChooseCode.j0] at h, fun _ _ _ _ r h => by simp [oned_code128ChooseCode.j1] at h, fun _ _ r h => by simp [oned_code128ChooseCode.l0] at h⟩
  | k + 1 => by
    obtain ⟨ih0, ih1, ih2⟩ := oned_code128ChooseCode.mono_l k
    refine ⟨?_, ?_, ?_⟩
    · intro y0 y1 y2 y3 y4
      unfold oned_code128ChooseCode.j0
      repeat' first
      | (with_reducible exact ih0 _ _ _ _ _)
      | (with_reducible exact ih1 _ _ _ _)
      | (with_reducible exact ih2 _ _)
      | (with_reducible exact oned_code128FindCType.mono _ _ _)
      | (with_reducible exact LeO.refl _)
      | (with_reducible exact LeO.none _)
      | (with_reducible refine LeO.ite ?_ ?_)
      | (with_reducible refine LeO.bind ?_ (fun _ => ?_))
      | exact ih0 _ _ _ _ _
      | exact ih1 _ _ _ _
      | exact ih2 _ _
      | exact oned_code128FindCType.mono _ _ _
      | exact LeO.none _
      | refine LeO.ite ?_ ?_
      | refine LeO.bind ?_ (fun _ => ?_)
    · intro y0 y1 y2 y3
      unfold oned_code128ChooseCode.j1
      repeat' first
      | (with_reducible exact ih0 _ _ _ _ _)
      | (with_reducible exact ih1 _ _ _ _)
      | (with_reducible exact ih2 _ _)
      | (with_reducible exact oned_code128FindCType.mono _ _ _)
      | (with_reducible exact LeO.refl _)
      | (with_reducible exact LeO.none _)
      | (with_reducible refine LeO.ite ?_ ?_)
      | (with_reducible refine LeO.bind ?_ (fun _ => ?_))
      | exact ih0 _ _ _ _ _
      | exact ih1 _ _ _ _
      | exact ih2 _ _
      | exact oned_code128FindCType.mono _ _ _
      | exact LeO.none _
      | refine LeO.ite ?_ ?_
      | refine LeO.bind ?_ (fun _ => ?_)
    · intro y0 y1
      unfold oned_code128ChooseCode.l0
      repeat' first
      | (with_reducible exact ih0 _ _ _ _ _)
      | (with_reducible exact ih1 _ _ _ _)
      | (with_reducible exact ih2 _ _)
      | (with_reducible exact oned_code128FindCType.mono _ _ _)
      | (with_reducible exact LeO.refl _)
      | (with_reducible exact LeO.none _)
      | (with_reducible refine LeO.ite ?_ ?_)
      | (with_reducible refine LeO.bind ?_ (fun _ => ?_))
      | exact ih0 _ _ _ _ _
      | exact ih1 _ _ _ _
      | exact ih2 _ _
      | exact oned_code128FindCType.mono _ _ _
      | exact LeO.none _
      | refine LeO.ite ?_ ?_
      | refine LeO.bind ?_ (fun _ => ?_)
theorem oned_code128ChooseCode.mono : ∀ a0 a1 a2 k, LeO (oned_code128ChooseCode.f k a0 a1 a2) (oned_code128ChooseCode.f (k + 1) a0 a1 a2) := by
  intro a0 a1 a2 k
  obtain ⟨ih0, ih1, ih2⟩ := oned_code128ChooseCode.mono_l k
  unfold oned_code128ChooseCode.f
  repeat' first
      | (with_reducible exact ih0 _ _ _ _ _)
      | (with_reducible exact ih1 _ _ _ _)
      | (with_reducible exact ih2 _ _)
      | (with_reducible exact oned_code128FindCType.mono _ _ _)
      | (with_reducible exact LeO.refl _)
      | (with_reducible exact LeO.none _)
      | (with_reducible refine LeO.ite ?_ ?_)
      | (with_reducible refine LeO.bind ?_ (fun _ => ?_))
      | exact ih0 _ _ _ _ _
      | exact ih1 _ _ _ _
      | exact ih2 _ _
      | exact oned_code128FindCType.mono _ _ _
      | exact LeO.none _
      | refine LeO.ite ?_ ?_
      | refine LeO.bind ?_ (fun _ => ?_)
set_option maxHeartbeats 8000000 in
set_option maxRecDepth 100000 in
theorem oned_code128ChooseCode.calls (k : Nat) (A0 : Option Addr) (c0 : Nat) (l0 : List Int) (a1 : Int) (a2 : Int) (r : Int) (w : World) (hr0 : Kd.C (Kd.int .i32) w A0 l0.length l0) (hc0 : l0.length ≤ c0) (h : oned_code128ChooseCode.f k l0 a1 a2 = some r) :
    Calls Tryz.prog 155 #[.slice A0 l0.length c0, .int .i64 a1, .int .i64 a2] w fun e w' => e = .returned (.int .i64 r) ∧ Drawn0 w w' := by
  have HR0 := Aside0.mk hr0
  have HC0 := Aside0.mk hc0
  clear hr0 hc0
  have H : ((oned_code128FindCType.f k l0 a1).bind fun t534 => (if t534 = 1 then (if a2 = 101 then (some 101) else (some 100)) else (if t534 = 0 then (if a1 < (l0.length : Int) then (if 0 ≤ a1 then (if (rd l0 a1) < 32 then (some 101) else (if a2 = 101 then (if (rd l0 a1) < 96 then (some 101) else (if (rd l0 a1) ≥ 241 then (if (rd l0 a1) ≤ 244 then (some 101) else (some 100)) else (some 100))) else (some 100))) else (none)) else (some 100)) else (if a2 = 101 then (oned_code128ChooseCode.j0 k l0 a1 a2 t534 (t534 == 3)) else (oned_code128ChooseCode.j0 k l0 a1 a2 t534 false))))) = some r := h
  clear h
  replace H := Option.bind_eq_some_iff.mp H
  obtain ⟨t534, A40, H⟩ := H
  replace H : (if t534 = 1 then (if a2 = 101 then (some 101) else (some 100)) else (if t534 = 0 then (if a1 < (l0.length : Int) then (if 0 ≤ a1 then (if (rd l0 a1) < 32 then (some 101) else (if a2 = 101 then (if (rd l0 a1) < 96 then (some 101) else (if (rd l0 a1) ≥ 241 then (if (rd l0 a1) ≤ 244 then (some 101) else (some 100)) else (some 100))) else (some 100))) else (none)) else (some 100)) else (if a2 = 101 then (oned_code128ChooseCode.j0 k l0 a1 a2 t534 (t534 == 3)) else (oned_code128ChooseCode.j0 k l0 a1 a2 t534 false)))) = some r := H
  have A4 := Aside0.mk A40
  clear A40
  by_cases c5 : t534 = 1
  · rw [if_pos c5] at H
    have c5b0 : (t534 == 1) = true := beq_iff_eq.mpr c5
    have c5b1 : (t534 != 1) = false := bne_eq_false_iff_eq.mpr c5
    clear c5
    by_cases c6 : a2 = 101
    · rw [if_pos c6] at H
      have c6b0 : (a2 == 101) = true := beq_iff_eq.mpr c6
      have c6b1 : (a2 != 101) = false := bne_eq_false_iff_eq.mpr c6
      clear c6
      obtain rfl := Option.some.inj H
      go_enter Tryz.func155, Tryz.ntmps155
      go_wp2_with (first | ((with_reducible refine gate_callee (f := 157) rfl ?_); refine goesL_ (some 12) rfl rfl Tryz.func157 (by kernel_rfl) rfl #[.slice A0 l0.length c0, .int .i64 a1] rfl (by (try simp only [List.map_toArray, List.map_cons, List.map_nil]); first | done | rfl | (simp only [List.length_drop, List.length_take]; rfl)) ?_; (with_reducible refine (oned_code128FindCType.calls k _ _ l0 a1 t534 _ ?side1 ?side2 A4.out).mono ?_); (case side1 => repeat (first | exact HR0.out | (with_reducible refine Kd.C_alloc ?_ _) | (with_reducible refine Kd.C_drewN ?_ _) | (with_reducible refine Kd.C_drew ?_))); (case side2 => exact HC0.out); rintro e w' ⟨rfl, ⟨nd, rfl⟩⟩; refine ⟨_, rfl, ?_⟩))
      go_ret
      exact ⟨by first | rfl | (simp; done) | (simp [*]; done), by repeat (first | exact Drawn0.refl _ | apply Drawn0.step)⟩
    · rw [if_neg c6] at H
      have c6b0 : (a2 == 101) = false := beq_eq_false_iff_ne.mpr c6
      have c6b1 : (a2 != 101) = true := bne_iff_ne.mpr c6
      obtain rfl := Option.some.inj H
      go_enter Tryz.func155, Tryz.ntmps155
      go_wp2_with (first | ((with_reducible refine gate_callee (f := 157) rfl ?_); refine goesL_ (some 12) rfl rfl Tryz.func157 (by kernel_rfl) rfl #[.slice A0 l0.length c0, .int .i64 a1] rfl (by (try simp only [List.map_toArray, List.map_cons, List.map_nil]); first | done | rfl | (simp only [List.length_drop, List.length_take]; rfl)) ?_; (with_reducible refine (oned_code128FindCType.calls k _ _ l0 a1 t534 _ ?side1 ?side2 A4.out).mono ?_); (case side1 => repeat (first | exact HR0.out | (with_reducible refine Kd.C_alloc ?_ _) | (with_reducible refine Kd.C_drewN ?_ _) | (with_reducible refine Kd.C_drew ?_))); (case side2 => exact HC0.out); rintro e w' ⟨rfl, ⟨nd, rfl⟩⟩; refine ⟨_, rfl, ?_⟩))
      go_ret
      exact ⟨by first | rfl | (simp; done) | (simp [*]; done), by repeat (first | exact Drawn0.refl _ | apply Drawn0.step)⟩
  · rw [if_neg c5] at H
    have c5b0 : (t534 == 1) = false := beq_eq_false_iff_ne.mpr c5
    have c5b1 : (t534 != 1) = true := bne_iff_ne.mpr c5
    by_cases c7 : t534 = 0
    · rw [if_pos c7] at H
      have c7b0 : (t534 == 0) = true := beq_iff_eq.mpr c7
      have c7b1 : (t534 != 0) = false := bne_eq_false_iff_eq.mpr c7
      clear c7
      by_cases c8 : a1 < (l0.length : Int)
      · rw [if_pos c8] at H
        have c8b0 : decide (a1 < (l0.length : Int)) = true := decide_eq_true c8
        clear c8
        by_cases c9 : 0 ≤ a1
        · rw [if_pos c9] at H
          have c9b0 : decide (0 ≤ a1) = true := decide_eq_true c9
          clear c9
          by_cases c10 : (rd l0 a1) < 32
          · rw [if_pos c10] at H
            have c10b0 : decide ((rd l0 a1) < 32) = true := decide_eq_true c10
            clear c10
            obtain rfl := Option.some.inj H
            go_enter Tryz.func155, Tryz.ntmps155
            go_wp2_with (first | ((with_reducible refine gate_callee (f := 157) rfl ?_); refine goesL_ (some 12) rfl rfl Tryz.func157 (by kernel_rfl) rfl #[.slice A0 l0.length c0, .int .i64 a1] rfl (by (try simp only [List.map_toArray, List.map_cons, List.map_nil]); first | done | rfl | (simp only [List.length_drop, List.length_take]; rfl)) ?_; (with_reducible refine (oned_code128FindCType.calls k _ _ l0 a1 t534 _ ?side1 ?side2 A4.out).mono ?_); (case side1 => repeat (first | exact HR0.out | (with_reducible refine Kd.C_alloc ?_ _) | (with_reducible refine Kd.C_drewN ?_ _) | (with_reducible refine Kd.C_drew ?_))); (case side2 => exact HC0.out); rintro e w' ⟨rfl, ⟨nd, rfl⟩⟩; refine ⟨_, rfl, ?_⟩; have p535 : 0 ≤ (a1 : Int) := of_decide_eq_true (by first | (with_reducible assumption) | assumption); have q535 : a1 < (l0.length : Int) := of_decide_eq_true (by first | (with_reducible assumption) | assumption); obtain ⟨ad535, e535, hx535_0⟩ := Kd.at_int HR0.out a1 p535 q535; cases e535; replace p535 := eq_true p535; replace q535 := eq_true q535))
            go_ret
            exact ⟨by first | rfl | (simp; done) | (simp [*]; done), by repeat (first | exact Drawn0.refl _ | apply Drawn0.step)⟩
          · rw [if_neg c10] at H
            have c10b0 : decide ((rd l0 a1) < 32) = false := decide_eq_false c10
            clear c10
            by_cases c11 : a2 = 101
            · rw [if_pos c11] at H
              have c11b0 : (a2 == 101) = true := beq_iff_eq.mpr c11
              have c11b1 : (a2 != 101) = false := bne_eq_false_iff_eq.mpr c11
              clear c11
              by_cases c12 : (rd l0 a1) < 96
              · rw [if_pos c12] at H
                have c12b0 : decide ((rd l0 a1) < 96) = true := decide_eq_true c12
                clear c12
                obtain rfl := Option.some.inj H
                go_enter Tryz.func155, Tryz.ntmps155
                go_wp2_with (first | ((with_reducible refine gate_callee (f := 157) rfl ?_); refine goesL_ (some 12) rfl rfl Tryz.func157 (by kernel_rfl) rfl #[.slice A0 l0.length c0, .int .i64 a1] rfl (by (try simp only [List.map_toArray, List.map_cons, List.map_nil]); first | done | rfl | (simp only [List.length_drop, List.length_take]; rfl)) ?_; (with_reducible refine (oned_code128FindCType.calls k _ _ l0 a1 t534 _ ?side1 ?side2 A4.out).mono ?_); (case side1 => repeat (first | exact HR0.out | (with_reducible refine Kd.C_alloc ?_ _) | (with_reducible refine Kd.C_drewN ?_ _) | (with_reducible refine Kd.C_drew ?_))); (case side2 => exact HC0.out); rintro e w' ⟨rfl, ⟨nd, rfl⟩⟩; refine ⟨_, rfl, ?_⟩; have p535 : 0 ≤ (a1 : Int) := of_decide_eq_true (by first | (with_reducible assumption) | assumption); have q535 : a1 < (l0.length : Int) := of_decide_eq_true (by first | (with_reducible assumption) | assumption); obtain ⟨ad535, e535, hx535_0⟩ := Kd.at_int HR0.out a1 p535 q535; cases e535; replace p535 := eq_true p535; replace q535 := eq_true q535))
                go_ret
                exact ⟨by first | rfl | (simp; done) | (simp [*]; done), by repeat (first | exact Drawn0.refl _ | apply Drawn0.step)⟩
              · rw [if_neg c12] at H
                have c12b0 : decide ((rd l0 a1) < 96) = false := decide_eq_false c12
                clear c12
                by_cases c13 : (rd l0 a1) ≥ 241
                · rw [if_pos c13] at H
                  have c13b0 : decide (241 ≤ (rd l0 a1)) = true := decide_eq_true c13
                  clear c13
                  by_cases c14 : (rd l0 a1) ≤ 244
                  · rw [if_pos c14] at H
                    have c14b0 : decide ((rd l0 a1) ≤ 244) = true := decide_eq_true c14
                    clear c14
                    obtain rfl := Option.some.inj H
                    go_enter Tryz.func155, Tryz.ntmps155
                    go_wp2_with (first | ((with_reducible refine gate_callee (f := 157) rfl ?_); refine goesL_ (some 12) rfl rfl Tryz.func157 (by kernel_rfl) rfl #[.slice A0 l0.length c0, .int .i64 a1] rfl (by (try simp only [List.map_toArray, List.map_cons, List.map_nil]); first | done | rfl | (simp only [List.length_drop, List.length_take]; rfl)) ?_; (with_reducible refine (oned_code128FindCType.calls k _ _ l0 a1 t534 _ ?side1 ?side2 A4.out).mono ?_); (case side1 => repeat (first | exact HR0.out | (with_reducible refine Kd.C_alloc ?_ _) | (with_reducible refine Kd.C_drewN ?_ _) | (with_reducible refine Kd.C_drew ?_))); (case side2 => exact HC0.out); rintro e w' ⟨rfl, ⟨nd, rfl⟩⟩; refine ⟨_, rfl, ?_⟩; have p535 : 0 ≤ (a1 : Int) := of_decide_eq_true (by first | (with_reducible assumption) | assumption); have q535 : a1 < (l0.length : Int) := of_decide_eq_true (by first | (with_reducible assumption) | assumption); obtain ⟨ad535, e535, hx535_0⟩ := Kd.at_int HR0.out a1 p535 q535; cases e535; replace p535 := eq_true p535; replace q535 := eq_true q535))
                    go_ret
                    exact ⟨by first | rfl | (simp; done) | (simp [*]; done), by repeat (first | exact Drawn0.refl _ | apply Drawn0.step)⟩
                  · rw [if_neg c14] at H
                    have c14b0 : decide ((rd l0 a1) ≤ 244) = false := decide_eq_false c14
                    clear c14
                    obtain rfl := Option.some.inj H
                    go_enter Tryz.func155, Tryz.ntmps155
                    go_wp2_with (first | ((with_reducible refine gate_callee (f := 157) rfl ?_); refine goesL_ (some 12) rfl rfl Tryz.func157 (by kernel_rfl) rfl #[.slice A0 l0.length c0, .int .i64 a1] rfl (by (try simp only [List.map_toArray, List.map_cons, List.map_nil]); first | done | rfl | (simp only [List.length_drop, List.length_take]; rfl)) ?_; (with_reducible refine (oned_code128FindCType.calls k _ _ l0 a1 t534 _ ?side1 ?side2 A4.out).mono ?_); (case side1 => repeat (first | exact HR0.out | (with_reducible refine Kd.C_alloc ?_ _) | (with_reducible refine Kd.C_drewN ?_ _) | (with_reducible refine Kd.C_drew ?_))); (case side2 => exact HC0.out); rintro e w' ⟨rfl, ⟨nd, rfl⟩⟩; refine ⟨_, rfl, ?_⟩; have p535 : 0 ≤ (a1 : Int) := of_decide_eq_true (by first | (with_reducible assumption) | assumption); have q535 : a1 < (l0.length : Int) := of_decide_eq_true (by first | (with_reducible assumption) | assumption); obtain ⟨ad535, e535, hx535_0⟩ := Kd.at_int HR0.out a1 p535 q535; cases e535; replace p535 := eq_true p535; replace q535 := eq_true q535))
                    go_ret
                    exact ⟨by first | rfl | (simp; done) | (simp [*]; done), by repeat (first | exact Drawn0.refl _ | apply Drawn0.step)⟩
                · rw [if_neg c13] at H
                  have c13b0 : decide (241 ≤ (rd l0 a1)) = false := decide_eq_false c13
                  clear c13
                  obtain rfl := Option.some.inj H
                  go_enter Tryz.func155, Tryz.ntmps155
                  go_wp2_with (first | ((with_reducible refine gate_callee (f := 157) rfl ?_); refine goesL_ (some 12) rfl rfl Tryz.func157 (by kernel_rfl) rfl #[.slice A0 l0.length c0, .int .i64 a1] rfl (by (try simp only [List.map_toArray, List.map_cons, List.map_nil]); first | done | rfl | (simp only [List.length_drop, List.length_take]; rfl)) ?_; (with_reducible refine (oned_code128FindCType.calls k _ _ l0 a1 t534 _ ?side1 ?side2 A4.out).mono ?_); (case side1 => repeat (first | exact HR0.out | (with_reducible refine Kd.C_alloc ?_ _) | (with_reducible refine Kd.C_drewN ?_ _) | (with_reducible refine Kd.C_drew ?_))); (case side2 => exact HC0.out); rintro e w' ⟨rfl, ⟨nd, rfl⟩⟩; refine ⟨_, rfl, ?_⟩; have p535 : 0 ≤ (a1 : Int) := of_decide_eq_true (by first | (with_reducible assumption) | assumption); have q535 : a1 < (l0.length : Int) := of_decide_eq_true (by first | (with_reducible assumption) | assumption); obtain ⟨ad535, e535, hx535_0⟩ := Kd.at_int HR0.out a1 p535 q535; cases e535; replace p535 := eq_true p535; replace q535 := eq_true q535))
                  go_ret
                  exact ⟨by first | rfl | (simp; done) | (simp [*]; done), by repeat (first | exact Drawn0.refl _ | apply Drawn0.step)⟩
            · rw [if_neg c11] at H
              have c11b0 : (a2 == 101) = false := beq_eq_false_iff_ne.mpr c11
              have c11b1 : (a2 != 101) = true := bne_iff_ne.mpr c11
              obtain rfl := Option.some.inj H
              go_enter Tryz.func155, Tryz.ntmps155
              go_wp2_with (first | ((with_reducible refine gate_callee (f := 157) rfl ?_); refine goesL_ (some 12) rfl rfl Tryz.func157 (by kernel_rfl) rfl #[.slice A0 l0.length c0, .int .i64 a1] rfl (by (try simp only [List.map_toArray, List.map_cons, List.map_nil]); first | done | rfl | (simp only [List.length_drop, List.length_take]; rfl)) ?_; (with_reducible refine (oned_code128FindCType.calls k _ _ l0 a1 t534 _ ?side1 ?side2 A4.out).mono ?_); (case side1 => repeat (first | exact HR0.out | (with_reducible refine Kd.C_alloc ?_ _) | (with_reducible refine Kd.C_drewN ?_ _) | (with_reducible refine Kd.C_drew ?_))); (case side2 => exact HC0.out); rintro e w' ⟨rfl, ⟨nd, rfl⟩⟩; refine ⟨_, rfl, ?_⟩; have p535 : 0 ≤ (a1 : Int) := of_decide_eq_true (by first | (with_reducible assumption) | assumption); have q535 : a1 < (l0.length : Int) := of_decide_eq_true (by first | (with_reducible assumption) | assumption); obtain ⟨ad535, e535, hx535_0⟩ := Kd.at_int HR0.out a1 p535 q535; cases e535; replace p535 := eq_true p535; replace q535 := eq_true q535))
              go_ret
              exact ⟨by first | rfl | (simp; done) | (simp [*]; done), by repeat (first | exact Drawn0.refl _ | apply Drawn0.step)⟩
        · rw [if_neg c9] at H
          exact absurd H (by simp)
      · rw [if_neg c8] at H
        have c8b0 : decide (a1 < (l0.length : Int)) = false := decide_eq_false c8
        clear c8
        obtain rfl := Option.some.inj H
        go_enter Tryz.func155, Tryz.ntmps155
        go_wp2_with (first | ((with_reducible refine gate_callee (f := 157) rfl ?_); refine goesL_ (some 12) rfl rfl Tryz.func157 (by kernel_rfl) rfl #[.slice A0 l0.length c0, .int .i64 a1] rfl (by (try simp only [List.map_toArray, List.map_cons, List.map_nil]); first | done | rfl | (simp only [List.length_drop, List.length_take]; rfl)) ?_; (with_reducible refine (oned_code128FindCType.calls k _ _ l0 a1 t534 _ ?side1 ?side2 A4.out).mono ?_); (case side1 => repeat (first | exact HR0.out | (with_reducible refine Kd.C_alloc ?_ _) | (with_reducible refine Kd.C_drewN ?_ _) | (with_reducible refine Kd.C_drew ?_))); (case side2 => exact HC0.out); rintro e w' ⟨rfl, ⟨nd, rfl⟩⟩; refine ⟨_, rfl, ?_⟩))
        go_ret
        exact ⟨by first | rfl | (simp; done) | (simp [*]; done), by repeat (first | exact Drawn0.refl _ | apply Drawn0.step)⟩
    · rw [if_neg c7] at H
      have c7b0 : (t534 == 0) = false := beq_eq_false_iff_ne.mpr c7
      have c7b1 : (t534 != 0) = true := bne_iff_ne.mpr c7
      have HC15 := Aside0.mk H
      clear H
      go_enter Tryz.func155, Tryz.ntmps155
      go_upto_region 12 with (first | ((with_reducible refine gate_callee (f := 157) rfl ?_); refine goesL_ (some 12) rfl rfl Tryz.func157 (by kernel_rfl) rfl #[.slice A0 l0.length c0, .int .i64 a1] rfl (by (try simp only [List.map_toArray, List.map_cons, List.map_nil]); first | done | rfl | (simp only [List.length_drop, List.length_take]; rfl)) ?_; (with_reducible refine (oned_code128FindCType.calls k _ _ l0 a1 t534 _ ?side1 ?side2 A4.out).mono ?_); (case side1 => repeat (first | exact HR0.out | (with_reducible refine Kd.C_alloc ?_ _) | (with_reducible refine Kd.C_drewN ?_ _) | (with_reducible refine Kd.C_drew ?_))); (case side2 => exact HC0.out); rintro e w' ⟨rfl, ⟨nd, rfl⟩⟩; refine ⟨_, rfl, ?_⟩))
      (try simp only [Act.put, List.setIfInBounds_toArray, List.set_cons_zero, List.set_cons_succ])
      go_cut [50] (fun v50 wc => ∃ (kq : Nat) (x50_14 : Bool), v50 = .bool x50_14 ∧ Aside0 (oned_code128ChooseCode.j0 kq l0 a1 a2 t534 x50_14 = some r) ∧ Aside0 (kq ≤ k) ∧ Drawn0 w wc)
      case first =>
        have H := HC15.out
        clear HC15
        by_cases c16 : a2 = 101
        · rw [if_pos c16] at H
          have c16b0 : (a2 == 101) = true := beq_iff_eq.mpr c16
          have c16b1 : (a2 != 101) = false := bne_eq_false_iff_eq.mpr c16
          clear c16
          (first | rw [c16b0] | (simp only [i64_w, i32_w]; rw [c16b0]) | skip)
          have H' := Aside0.mk H
          clear H
          go_wp2
          go_meet
          case rel => exact ⟨_, ((t534 == 3)), (by first | rfl | (simp; done) | (simp [*]; done)), H', ⟨by first | omega | exact Nat.le_refl _⟩, by repeat (first | exact Drawn0.refl _ | apply Drawn0.step)⟩
        · rw [if_neg c16] at H
          have c16b0 : (a2 == 101) = false := beq_eq_false_iff_ne.mpr c16
          have c16b1 : (a2 != 101) = true := bne_iff_ne.mpr c16
          (first | rw [c16b0] | (simp only [i64_w, i32_w]; rw [c16b0]) | skip)
          have H' := Aside0.mk H
          clear H
          go_wp2
          go_meet
          case rel => exact ⟨_, (false), (by first | rfl | (simp; done) | (simp [*]; done)), H', ⟨by first | omega | exact Nat.le_refl _⟩, by repeat (first | exact Drawn0.refl _ | apply Drawn0.step)⟩
      case rest =>
        clear HC15
        try clear c1
        try clear p2
        try clear c5
        try clear c5b0
        try clear c5b1
        try clear p5
        try clear q5
        try clear hx5
        try clear c6
        try clear c6b0
        try clear c6b1
        try clear c7
        try clear c7b0
        try clear c7b1
        try clear c8
        try clear c8b0
        try clear c9
        try clear c9b0
        try clear c10
        try clear c10b0
        try clear c11
        try clear c11b0
        try clear c11b1
        try clear c12
        try clear c12b0
        try clear c13
        try clear c13b0
        try clear c14
        try clear c14b0
        try clear c15
        try clear c16
        try clear c16b0
        try clear c16b1
        try clear hx535_0
        try clear p535
        try clear q535
        obtain ⟨kq, x50_14, rfl, HA, HJ14, ⟨mc14, rfl⟩⟩ := hcut
        cases kq with
        | zero => exact absurd HA.out (by simp [oned_code128ChooseCode.j0])
        | succ kj14 =>
          have H := HA.out
          clear HA
          simp only [oned_code128ChooseCode.j0] at H
          by_cases c17 : x50_14 = true
          · subst c17
            have H1 : (some 101) = some r := by rw [if_pos rfl] at H; exact H
            clear H
            have H := H1
            clear H1
            obtain rfl := Option.some.inj H
            go_wp2
            go_ret
            exact ⟨by first | rfl | (simp; done) | (simp [*]; done), by repeat (first | exact Drawn0.refl _ | apply Drawn0.step)⟩
          · replace c17 := Bool.eq_false_iff.mpr c17
            subst c17
            have H1 : (if a2 = 99 then (some 99) else (if a2 = 100 then (if t534 = 3 then (some 100) else ((oned_code128FindCType.f kj14 l0 (wrap64 (a1 + 2))).bind fun t536 => (if t536 = 0 then (oned_code128ChooseCode.j1 kj14 l0 a1 t536 true) else (oned_code128ChooseCode.j1 kj14 l0 a1 t536 (t536 == 1))))) else (if t534 = 3 then ((oned_code128FindCType.f kj14 l0 (wrap64 (a1 + 1))).bind fun t539 => (if t539 = 2 then (some 99) else (some 100))) else (if t534 = 2 then (some 99) else (some 100))))) = some r := by rw [if_neg (show ¬ (false = true) by decide)] at H; exact H
            clear H
            have H := H1
            clear H1
            by_cases c18 : a2 = 99
            · rw [if_pos c18] at H
              have c18b0 : (a2 == 99) = true := beq_iff_eq.mpr c18
              have c18b1 : (a2 != 99) = false := bne_eq_false_iff_eq.mpr c18
              clear c18
              obtain rfl := Option.some.inj H
              go_wp2
              go_ret
              exact ⟨by first | rfl | (simp; done) | (simp [*]; done), by repeat (first | exact Drawn0.refl _ | apply Drawn0.step)⟩
            · rw [if_neg c18] at H
              have c18b0 : (a2 == 99) = false := beq_eq_false_iff_ne.mpr c18
              have c18b1 : (a2 != 99) = true := bne_iff_ne.mpr c18
              by_cases c19 : a2 = 100
              · rw [if_pos c19] at H
                have c19b0 : (a2 == 100) = true := beq_iff_eq.mpr c19
                have c19b1 : (a2 != 100) = false := bne_eq_false_iff_eq.mpr c19
                clear c19
                by_cases c20 : t534 = 3
                · rw [if_pos c20] at H
                  have c20b0 : (t534 == 3) = true := beq_iff_eq.mpr c20
                  have c20b1 : (t534 != 3) = false := bne_eq_false_iff_eq.mpr c20
                  clear c20
                  obtain rfl := Option.some.inj H
                  go_wp2
                  go_ret
                  exact ⟨by first | rfl | (simp; done) | (simp [*]; done), by repeat (first | exact Drawn0.refl _ | apply Drawn0.step)⟩
                · rw [if_neg c20] at H
                  have c20b0 : (t534 == 3) = false := beq_eq_false_iff_ne.mpr c20
                  have c20b1 : (t534 != 3) = true := bne_iff_ne.mpr c20
                  replace H := Option.bind_eq_some_iff.mp H
                  obtain ⟨t536, A210, H⟩ := H
                  replace H : (if t536 = 0 then (oned_code128ChooseCode.j1 kj14 l0 a1 t536 true) else (oned_code128ChooseCode.j1 kj14 l0 a1 t536 (t536 == 1))) = some r := H
                  have A21 := Aside0.mk A210
                  clear A210
                  have HC22 := Aside0.mk H
                  clear H
                  go_upto_region 20 with (first | ((with_reducible refine gate_callee (f := 157) rfl ?_); refine goesL_ (some 60) rfl rfl Tryz.func157 (by kernel_rfl) rfl #[.slice A0 l0.length c0, .int .i64 (wrap64 (a1 + 2))] rfl (by (try simp only [List.map_toArray, List.map_cons, List.map_nil]); first | done | rfl | (simp only [List.length_drop, List.length_take]; rfl)) ?_; (with_reducible refine (oned_code128FindCType.calls kj14 _ _ l0 (wrap64 (a1 + 2)) t536 _ ?side1 ?side2 A21.out).mono ?_); (case side1 => repeat (first | exact HR0.out | (with_reducible refine Kd.C_alloc ?_ _) | (with_reducible refine Kd.C_drewN ?_ _) | (with_reducible refine Kd.C_drew ?_))); (case side2 => exact HC0.out); rintro e w' ⟨rfl, ⟨nd, rfl⟩⟩; refine ⟨_, rfl, ?_⟩))
                  (try simp only [Act.put, List.setIfInBounds_toArray, List.set_cons_zero, List.set_cons_succ])
                  go_cut [66] (fun v66 wc => ∃ (kq : Nat) (x66_21 : Bool), v66 = .bool x66_21 ∧ Aside0 (oned_code128ChooseCode.j1 kq l0 a1 t536 x66_21 = some r) ∧ Aside0 (kq ≤ kj14) ∧ Drawn0 w wc)
                  case first =>
                    have H := HC22.out
                    clear HC22
                    by_cases c23 : t536 = 0
                    · rw [if_pos c23] at H
                      have c23b0 : (t536 == 0) = true := beq_iff_eq.mpr c23
                      have c23b1 : (t536 != 0) = false := bne_eq_false_iff_eq.mpr c23
                      clear c23
                      (first | rw [c23b0] | (simp only [i64_w, i32_w]; rw [c23b0]) | skip)
                      have H' := Aside0.mk H
                      clear H
                      go_wp2
                      go_meet
                      case rel => exact ⟨_, (true), (by first | rfl | (simp; done) | (simp [*]; done)), H', ⟨by have := HJ14.out; first | omega | exact Nat.le_refl _⟩, by repeat (first | exact Drawn0.refl _ | apply Drawn0.step)⟩
                    · rw [if_neg c23] at H
                      have c23b0 : (t536 == 0) = false := beq_eq_false_iff_ne.mpr c23
                      have c23b1 : (t536 != 0) = true := bne_iff_ne.mpr c23
                      (first | rw [c23b0] | (simp only [i64_w, i32_w]; rw [c23b0]) | skip)
                      have H' := Aside0.mk H
                      clear H
                      go_wp2
                      go_meet
                      case rel => exact ⟨_, ((t536 == 1)), (by first | rfl | (simp; done) | (simp [*]; done)), H', ⟨by have := HJ14.out; first | omega | exact Nat.le_refl _⟩, by repeat (first | exact Drawn0.refl _ | apply Drawn0.step)⟩
                  case rest =>
                    clear HC22
                    try clear c1
                    try clear c2
                    try clear p2
                    try clear c5
                    try clear c5b0
                    try clear c5b1
                    try clear p5
                    try clear q5
                    try clear hx5
                    try clear c6
                    try clear c6b0
                    try clear c6b1
                    try clear p6
                    try clear c7
                    try clear c7b0
                    try clear c7b1
                    try clear c8
                    try clear c8b0
                    try clear c9
                    try clear c9b0
                    try clear c10
                    try clear c10b0
                    try clear c11
                    try clear c11b0
                    try clear c11b1
                    try clear c12
                    try clear c12b0
                    try clear c13
                    try clear c13b0
                    try clear c14
                    try clear c14b0
                    try clear c15
                    try clear c16
                    try clear c16b0
                    try clear c16b1
                    try clear c17
                    try clear c18
                    try clear c18b0
                    try clear c18b1
                    try clear c19
                    try clear c19b0
                    try clear c19b1
                    try clear c20
                    try clear c20b0
                    try clear c20b1
                    try clear c23
                    try clear c23b0
                    try clear c23b1
                    try clear hx535_0
                    try clear p2
                    try clear p5
                    try clear p535
                    try clear q5
                    try clear q535
                    obtain ⟨kq, x66_21, rfl, HA, HJ21, ⟨mc21, rfl⟩⟩ := hcut
                    cases kq with
                    | zero => exact absurd HA.out (by simp [oned_code128ChooseCode.j1])
                    | succ kj21 =>
                      have H := HA.out
                      clear HA
                      simp only [oned_code128ChooseCode.j1] at H
                      by_cases c24 : x66_21 = true
                      · subst c24
                        have H1 : (some 100) = some r := by rw [if_pos rfl] at H; exact H
                        clear H
                        have H := H1
                        clear H1
                        obtain rfl := Option.some.inj H
                        go_wp2
                        go_ret
                        exact ⟨by first | rfl | (simp; done) | (simp [*]; done), by repeat (first | exact Drawn0.refl _ | apply Drawn0.step)⟩
                      · replace c24 := Bool.eq_false_iff.mpr c24
                        subst c24
                        have H1 : (if t536 = 3 then ((oned_code128FindCType.f kj21 l0 (wrap64 (a1 + 3))).bind fun t537 => (if t537 = 2 then (some 99) else (some 100))) else (oned_code128ChooseCode.l0 kj21 l0 (wrap64 (a1 + 4)))) = some r := by rw [if_neg (show ¬ (false = true) by decide)] at H; exact H
                        clear H
                        have H := H1
                        clear H1
                        by_cases c25 : t536 = 3
                        · rw [if_pos c25] at H
                          have c25b0 : (t536 == 3) = true := beq_iff_eq.mpr c25
                          have c25b1 : (t536 != 3) = false := bne_eq_false_iff_eq.mpr c25
                          clear c25
                          replace H := Option.bind_eq_some_iff.mp H
                          obtain ⟨t537, A260, H⟩ := H
                          replace H : (if t537 = 2 then (some 99) else (some 100)) = some r := H
                          have A26 := Aside0.mk A260
                          clear A260
                          by_cases c27 : t537 = 2
                          · rw [if_pos c27] at H
                            have c27b0 : (t537 == 2) = true := beq_iff_eq.mpr c27
                            have c27b1 : (t537 != 2) = false := bne_eq_false_iff_eq.mpr c27
                            clear c27
                            obtain rfl := Option.some.inj H
                            go_wp2_with (first | ((with_reducible refine gate_callee (f := 157) rfl ?_); refine goesL_ (some 72) rfl rfl Tryz.func157 (by kernel_rfl) rfl #[.slice A0 l0.length c0, .int .i64 (wrap64 (a1 + 3))] rfl (by (try simp only [List.map_toArray, List.map_cons, List.map_nil]); first | done | rfl | (simp only [List.length_drop, List.length_take]; rfl)) ?_; (with_reducible refine (oned_code128FindCType.calls kj21 _ _ l0 (wrap64 (a1 + 3)) t537 _ ?side1 ?side2 A26.out).mono ?_); (case side1 => repeat (first | exact HR0.out | (with_reducible refine Kd.C_alloc ?_ _) | (with_reducible refine Kd.C_drewN ?_ _) | (with_reducible refine Kd.C_drew ?_))); (case side2 => exact HC0.out); rintro e w' ⟨rfl, ⟨nd, rfl⟩⟩; refine ⟨_, rfl, ?_⟩))
                            go_ret
                            exact ⟨by first | rfl | (simp; done) | (simp [*]; done), by repeat (first | exact Drawn0.refl _ | apply Drawn0.step)⟩
                          · rw [if_neg c27] at H
                            have c27b0 : (t537 == 2) = false := beq_eq_false_iff_ne.mpr c27
                            have c27b1 : (t537 != 2) = true := bne_iff_ne.mpr c27
                            obtain rfl := Option.some.inj H
                            go_wp2_with (first | ((with_reducible refine gate_callee (f := 157) rfl ?_); refine goesL_ (some 72) rfl rfl Tryz.func157 (by kernel_rfl) rfl #[.slice A0 l0.length c0, .int .i64 (wrap64 (a1 + 3))] rfl (by (try simp only [List.map_toArray, List.map_cons, List.map_nil]); first | done | rfl | (simp only [List.length_drop, List.length_take]; rfl)) ?_; (with_reducible refine (oned_code128FindCType.calls kj21 _ _ l0 (wrap64 (a1 + 3)) t537 _ ?side1 ?side2 A26.out).mono ?_); (case side1 => repeat (first | exact HR0.out | (with_reducible refine Kd.C_alloc ?_ _) | (with_reducible refine Kd.C_drewN ?_ _) | (with_reducible refine Kd.C_drew ?_))); (case side2 => exact HC0.out); rintro e w' ⟨rfl, ⟨nd, rfl⟩⟩; refine ⟨_, rfl, ?_⟩))
                            go_ret
                            exact ⟨by first | rfl | (simp; done) | (simp [*]; done), by repeat (first | exact Drawn0.refl _ | apply Drawn0.step)⟩
                        · rw [if_neg c25] at H
                          have c25b0 : (t536 == 3) = false := beq_eq_false_iff_ne.mpr c25
                          have c25b1 : (t536 != 3) = true := bne_iff_ne.mpr c25
                          have H' := Aside0.mk H
                          clear H
                          go_wp2
                          go_loopg [9] kj21 (fun kq v9 w' => ∃ (x9_3 : Int), v9 = .int .i64 x9_3 ∧ Aside0 (oned_code128ChooseCode.l0 kq l0 x9_3 = some r) ∧ Aside0 (kq ≤ kj21) ∧ Drawn0 w w')
                          case atStart => exact ⟨(wrap64 (a1 + 4)), (by first | rfl | (simp; done) | (simp [*]; done)), H', ⟨Nat.le_refl _⟩, by repeat (first | exact Drawn0.refl _ | apply Drawn0.step)⟩
                          case round =>
                            clear H'
                            try clear c1
                            try clear c2
                            try clear p2
                            try clear c5
                            try clear c5b0
                            try clear c5b1
                            try clear p5
                            try clear q5
                            try clear hx5
                            try clear c6
                            try clear c6b0
                            try clear c6b1
                            try clear p6
                            try clear c7
                            try clear c7b0
                            try clear c7b1
                            try clear c8
                            try clear c8b0
                            try clear c9
                            try clear c9b0
                            try clear c10
                            try clear c10b0
                            try clear c11
                            try clear c11b0
                            try clear c11b1
                            try clear c12
                            try clear c12b0
                            try clear c13
                            try clear c13b0
                            try clear c14
                            try clear c14b0
                            try clear c15
                            try clear c16
                            try clear c16b0
                            try clear c16b1
                            try clear c17
                            try clear c18
                            try clear c18b0
                            try clear c18b1
                            try clear c19
                            try clear c19b0
                            try clear c19b1
                            try clear c20
                            try clear c20b0
                            try clear c20b1
                            try clear c21
                            try clear c23
                            try clear c23b0
                            try clear c23b1
                            try clear c24
                            try clear c25
                            try clear c25b0
                            try clear c25b1
                            try clear c27
                            try clear c27b0
                            try clear c27b1
                            try clear hx535_0
                            try clear p2
                            try clear p5
                            try clear p535
                            try clear p6
                            try clear q5
                            try clear q535
                            obtain ⟨x9_3, rfl, HA, HK3, ⟨m3, rfl⟩⟩ := hrel
                            cases gk with
                            | zero => exact absurd HA.out (by simp [oned_code128ChooseCode.l0])
                            | succ k3 =>
                              have H := HA.out
                              clear HA
                              simp only [oned_code128ChooseCode.l0] at H
                              replace H := Option.bind_eq_some_iff.mp H
                              obtain ⟨t538, A280, H⟩ := H
                              replace H : (if t538 = 2 then (oned_code128ChooseCode.l0 k3 l0 (wrap64 (x9_3 + 2))) else (if t538 = 1 then (some 100) else (some 99))) = some r := H
                              have A28 := Aside0.mk A280
                              clear A280
                              by_cases c29 : t538 = 2
                              · rw [if_pos c29] at H
                                have c29b0 : (t538 == 2) = true := beq_iff_eq.mpr c29
                                have c29b1 : (t538 != 2) = false := bne_eq_false_iff_eq.mpr c29
                                clear c29
                                have H' := Aside0.mk H
                                clear H
                                go_wp2_with (first | ((with_reducible refine gate_callee (f := 157) rfl ?_); refine goesL_ (some 79) rfl rfl Tryz.func157 (by kernel_rfl) rfl #[.slice A0 l0.length c0, .int .i64 x9_3] rfl (by (try simp only [List.map_toArray, List.map_cons, List.map_nil]); first | done | rfl | (simp only [List.length_drop, List.length_take]; rfl)) ?_; (with_reducible refine (oned_code128FindCType.calls k3 _ _ l0 x9_3 t538 _ ?side1 ?side2 A28.out).mono ?_); (case side1 => repeat (first | exact HR0.out | (with_reducible refine Kd.C_alloc ?_ _) | (with_reducible refine Kd.C_drewN ?_ _) | (with_reducible refine Kd.C_drew ?_))); (case side2 => exact HC0.out); rintro e w' ⟨rfl, ⟨nd, rfl⟩⟩; refine ⟨_, rfl, ?_⟩))
                                go_roundg k3
                                case measure => have := HJ14.out; have := HJ21.out; have := HK3.out; omega
                                case rel => exact ⟨(wrap64 (x9_3 + 2)), (by first | rfl | (simp; done) | (simp [*]; done)), H', ⟨by have := HJ14.out; have := HJ21.out; have := HK3.out; omega⟩, by repeat (first | exact Drawn0.refl _ | apply Drawn0.step)⟩
                              · rw [if_neg c29] at H
                                have c29b0 : (t538 == 2) = false := beq_eq_false_iff_ne.mpr c29
                                have c29b1 : (t538 != 2) = true := bne_iff_ne.mpr c29
                                by_cases c30 : t538 = 1
                                · rw [if_pos c30] at H
                                  have c30b0 : (t538 == 1) = true := beq_iff_eq.mpr c30
                                  have c30b1 : (t538 != 1) = false := bne_eq_false_iff_eq.mpr c30
                                  clear c30
                                  obtain rfl := Option.some.inj H
                                  go_wp2_with (first | ((with_reducible refine gate_callee (f := 157) rfl ?_); refine goesL_ (some 79) rfl rfl Tryz.func157 (by kernel_rfl) rfl #[.slice A0 l0.length c0, .int .i64 x9_3] rfl (by (try simp only [List.map_toArray, List.map_cons, List.map_nil]); first | done | rfl | (simp only [List.length_drop, List.length_take]; rfl)) ?_; (with_reducible refine (oned_code128FindCType.calls k3 _ _ l0 x9_3 t538 _ ?side1 ?side2 A28.out).mono ?_); (case side1 => repeat (first | exact HR0.out | (with_reducible refine Kd.C_alloc ?_ _) | (with_reducible refine Kd.C_drewN ?_ _) | (with_reducible refine Kd.C_drew ?_))); (case side2 => exact HC0.out); rintro e w' ⟨rfl, ⟨nd, rfl⟩⟩; refine ⟨_, rfl, ?_⟩))
                                  go_ret
                                  exact ⟨by first | rfl | (simp; done) | (simp [*]; done), by repeat (first | exact Drawn0.refl _ | apply Drawn0.step)⟩
                                · rw [if_neg c30] at H
                                  have c30b0 : (t538 == 1) = false := beq_eq_false_iff_ne.mpr c30
                                  have c30b1 : (t538 != 1) = true := bne_iff_ne.mpr c30
                                  obtain rfl := Option.some.inj H
                                  go_wp2_with (first | ((with_reducible refine gate_callee (f := 157) rfl ?_); refine goesL_ (some 79) rfl rfl Tryz.func157 (by kernel_rfl) rfl #[.slice A0 l0.length c0, .int .i64 x9_3] rfl (by (try simp only [List.map_toArray, List.map_cons, List.map_nil]); first | done | rfl | (simp only [List.length_drop, List.length_take]; rfl)) ?_; (with_reducible refine (oned_code128FindCType.calls k3 _ _ l0 x9_3 t538 _ ?side1 ?side2 A28.out).mono ?_); (case side1 => repeat (first | exact HR0.out | (with_reducible refine Kd.C_alloc ?_ _) | (with_reducible refine Kd.C_drewN ?_ _) | (with_reducible refine Kd.C_drew ?_))); (case side2 => exact HC0.out); rintro e w' ⟨rfl, ⟨nd, rfl⟩⟩; refine ⟨_, rfl, ?_⟩))
                                  go_ret
                                  exact ⟨by first | rfl | (simp; done) | (simp [*]; done), by repeat (first | exact Drawn0.refl _ | apply Drawn0.step)⟩
              · rw [if_neg c19] at H
                have c19b0 : (a2 == 100) = false := beq_eq_false_iff_ne.mpr c19
                have c19b1 : (a2 != 100) = true := bne_iff_ne.mpr c19
                by_cases c31 : t534 = 3
                · rw [if_pos c31] at H
                  have c31b0 : (t534 == 3) = true := beq_iff_eq.mpr c31
                  have c31b1 : (t534 != 3) = false := bne_eq_false_iff_eq.mpr c31
                  clear c31
                  replace H := Option.bind_eq_some_iff.mp H
                  obtain ⟨t539, A320, H⟩ := H
                  replace H : (if t539 = 2 then (some 99) else (some 100)) = some r := H
                  have A32 := Aside0.mk A320
                  clear A320
                  by_cases c33 : t539 = 2
                  · rw [if_pos c33] at H
                    have c33b0 : (t539 == 2) = true := beq_iff_eq.mpr c33
                    have c33b1 : (t539 != 2) = false := bne_eq_false_iff_eq.mpr c33
                    clear c33
                    obtain rfl := Option.some.inj H
                    go_wp2_with (first | ((with_reducible refine gate_callee (f := 157) rfl ?_); refine goesL_ (some 91) rfl rfl Tryz.func157 (by kernel_rfl) rfl #[.slice A0 l0.length c0, .int .i64 (wrap64 (a1 + 1))] rfl (by (try simp only [List.map_toArray, List.map_cons, List.map_nil]); first | done | rfl | (simp only [List.length_drop, List.length_take]; rfl)) ?_; (with_reducible refine (oned_code128FindCType.calls kj14 _ _ l0 (wrap64 (a1 + 1)) t539 _ ?side1 ?side2 A32.out).mono ?_); (case side1 => repeat (first | exact HR0.out | (with_reducible refine Kd.C_alloc ?_ _) | (with_reducible refine Kd.C_drewN ?_ _) | (with_reducible refine Kd.C_drew ?_))); (case side2 => exact HC0.out); rintro e w' ⟨rfl, ⟨nd, rfl⟩⟩; refine ⟨_, rfl, ?_⟩))
                    go_ret
                    exact ⟨by first | rfl | (simp; done) | (simp [*]; done), by repeat (first | exact Drawn0.refl _ | apply Drawn0.step)⟩
                  · rw [if_neg c33] at H
                    have c33b0 : (t539 == 2) = false := beq_eq_false_iff_ne.mpr c33
                    have c33b1 : (t539 != 2) = true := bne_iff_ne.mpr c33
                    obtain rfl := Option.some.inj H
                    go_wp2_with (first | ((with_reducible refine gate_callee (f := 157) rfl ?_); refine goesL_ (some 91) rfl rfl Tryz.func157 (by kernel_rfl) rfl #[.slice A0 l0.length c0, .int .i64 (wrap64 (a1 + 1))] rfl (by (try simp only [List.map_toArray, List.map_cons, List.map_nil]); first | done | rfl | (simp only [List.length_drop, List.length_take]; rfl)) ?_; (with_reducible refine (oned_code128FindCType.calls kj14 _ _ l0 (wrap64 (a1 + 1)) t539 _ ?side1 ?side2 A32.out).mono ?_); (case side1 => repeat (first | exact HR0.out | (with_reducible refine Kd.C_alloc ?_ _) | (with_reducible refine Kd.C_drewN ?_ _) | (with_reducible refine Kd.C_drew ?_))); (case side2 => exact HC0.out); rintro e w' ⟨rfl, ⟨nd, rfl⟩⟩; refine ⟨_, rfl, ?_⟩))
                    go_ret
                    exact ⟨by first | rfl | (simp; done) | (simp [*]; done), by repeat (first | exact Drawn0.refl _ | apply Drawn0.step)⟩
                · rw [if_neg c31] at H
                  have c31b0 : (t534 == 3) = false := beq_eq_false_iff_ne.mpr c31
                  have c31b1 : (t534 != 3) = true := bne_iff_ne.mpr c31
                  by_cases c34 : t534 = 2
                  · rw [if_pos c34] at H
                    have c34b0 : (t534 == 2) = true := beq_iff_eq.mpr c34
                    have c34b1 : (t534 != 2) = false := bne_eq_false_iff_eq.mpr c34
                    clear c34
                    obtain rfl := Option.some.inj H
                    go_wp2
                    go_ret
                    exact ⟨by first | rfl | (simp; done) | (simp [*]; done), by repeat (first | exact Drawn0.refl _ | apply Drawn0.step)⟩
                  · rw [if_neg c34] at H
                    have c34b0 : (t534 == 2) = false := beq_eq_false_iff_ne.mpr c34
                    have c34b1 : (t534 != 2) = true := bne_iff_ne.mpr c34
                    obtain rfl := Option.some.inj H
                    go_wp2
                    go_ret
                    exact ⟨by first | rfl | (simp; done) | (simp [*]; done), by repeat (first | exact Drawn0.refl _ | apply Drawn0.step)⟩

-- NOT PRINTED: function 156 (oned_code128CODE_PATTERNS)

-- NOT PRINTED: function 153 (oned_code128Encoder_encodeWithHints)
end Go.Proofs.YthkddnmomjcdaaaGreat.F
namespace Go.Proofs.YthkddnmomjcdaaaGreat.B
open Go.RowKit Go.Proofs.YthkddnmomjcdaaaGreatW.PrintWords Go.Proofs.YthkddnmomjcdaaaGreatW.PrintLast Go.Proofs.YthkddnmomjcdaaaGreatW.PrintMore
set_option linter.unusedVariables false
set_option linter.unusedSimpArgs false

/-! ### Code 128: the choice of the set -/
theorem w64c (x : Int) (h0 : -100000 ≤ x) (h1 : x ≤ 1000000000) : wrap64 x = x := by unfold wrap64; omega
def fct (xs : List Int) (q : Nat) : Int := if two128 xs q = true then 2 else if q < xs.length ∧ one128 xs q = true then 1 else 0
theorem fct_run (xs : List Int) (q : Nat) (hn : xs.length ≤ 1000) (hq : q ≤ 10000) (hr : ∀ v ∈ xs, 0 ≤ v ∧ v < 128) : Ev (fun k => F.oned_code128FindCType.f k xs q) (fct xs q) := by
  by_cases h : q < xs.length
  · have hx : 0 ≤ rd xs q ∧ rd xs q < 128 := by
      have : rd xs (q : Int) = xs[q] := by unfold rd; rw [Int.toNat_natCast, List.getD_eq_getElem?_getD, List.getElem?_eq_getElem h]; rfl
      rw [this]; exact hr _ (List.getElem_mem h)
    have hw : wrap64 ((q : Int) + 1) = ((q + 1 : Nat) : Int) := by rw [w64c _ (by omega) (by omega)]; rfl
    refine Ev.congr (f := fun k => F.oned_code128FindCType.j0 k xs q xs.length (decide (rd xs q < 48) || decide (rd xs q > 57))) (fun k => ?_) ?_
    · rw [F.oned_code128FindCType.f, if_neg (by omega), if_pos (by omega), if_pos (by omega), if_neg (by omega)]
      by_cases h1 : rd xs q < 48
      · rw [if_pos h1, decide_eq_true h1]; rfl
      · rw [if_neg h1, decide_eq_false h1]; rfl
    · refine Ev.step (f := fun _ => some (fct xs q)) (fun k => ?_) (Ev.now _)
      rw [F.oned_code128FindCType.j0, hw]
      by_cases h1 : 48 ≤ rd xs q ∧ rd xs q ≤ 57
      · have hone : one128 xs q = true := by unfold one128; simp [h1]
        rw [show (decide (rd xs q < 48) || decide (rd xs q > 57)) = false from by simp; omega, if_neg (by simp)]
        by_cases h2 : q + 1 < xs.length
        · rw [if_neg (by omega), if_pos (by omega), if_pos (by omega)]
          by_cases h3 : rd xs (q + 1 : Nat) < 48
          · rw [if_pos h3]
            have : two128 xs q = false := by
              rcases hb : two128 xs q with _ | _
              · rfl
              · have := two_facts hb; omega
            unfold fct
            rw [if_neg (by simp [this]), if_pos ⟨h, hone⟩]
          · rw [if_neg h3]
            by_cases h4 : rd xs (q + 1 : Nat) > 57
            · rw [if_pos h4]
              have : two128 xs q = false := by
                rcases hb : two128 xs q with _ | _
                · rfl
                · have := two_facts hb; omega
              unfold fct
              rw [if_neg (by simp [this]), if_pos ⟨h, hone⟩]
            · rw [if_neg h4]
              have : two128 xs q = true := by
                unfold two128
                simp only [Bool.and_eq_true, decide_eq_true_eq]
                exact ⟨⟨⟨h1, h2⟩, by omega⟩, by omega⟩
              unfold fct
              rw [if_pos this]
        · rw [if_pos (by omega)]
          have : two128 xs q = false := by
            rcases hb : two128 xs q with _ | _
            · rfl
            · have := two_facts hb; omega
          unfold fct
          rw [if_neg (by simp [this]), if_pos ⟨h, hone⟩]
      · have hone : one128 xs q = false := by unfold one128; simp; omega
        have : two128 xs q = false := by
          rcases hb : two128 xs q with _ | _
          · rfl
          · have := two_facts hb; omega
        rw [show (decide (rd xs q < 48) || decide (rd xs q > 57)) = true from by simp; omega, if_pos rfl]
        unfold fct
        rw [if_neg (by simp [this]), if_neg (by simp [hone])]
  · refine Ev.congr (f := fun _ => some (fct xs q)) (fun k => ?_) (Ev.now _)
    have : two128 xs q = false := by
      rcases hb : two128 xs q with _ | _
      · rfl
      · have := two_facts hb; omega
    rw [F.oned_code128FindCType.f, if_pos (by omega)]
    unfold fct
    rw [if_neg (by simp [this]), if_neg (fun hh => h hh.1)]
theorem fct_cases (xs : List Int) (q : Nat) : fct xs q = 0 ∨ fct xs q = 1 ∨ (fct xs q = 2 ∧ two128 xs q = true) := by
  unfold fct
  by_cases h : two128 xs q = true
  · rw [if_pos h]; exact .inr (.inr ⟨rfl, h⟩)
  · rw [if_neg h]
    by_cases h1 : q < xs.length ∧ one128 xs q = true
    · rw [if_pos h1]; exact .inr (.inl rfl)
    · rw [if_neg h1]; exact .inl rfl
theorem far_run (xs : List Int) (hn : xs.length ≤ 1000) (hr : ∀ v ∈ xs, 0 ≤ v ∧ v < 128) : ∀ (d q : Nat), xs.length ≤ q + d → q ≤ 5000 → ∃ r : Int, (r = 99 ∨ r = 100) ∧ Ev (fun k => F.oned_code128ChooseCode.l0 k xs q) r := by
  intro d
  induction d with
  | zero =>
    intro q hq hq2
    rcases fct_cases xs q with h | h | ⟨_, h⟩
    · refine ⟨99, .inl rfl, Ev.step (f := fun k => (F.oned_code128FindCType.f k xs q).bind fun t538 => (if t538 = 2 then (F.oned_code128ChooseCode.l0 k xs (wrap64 ((q : Int) + 2))) else (if t538 = 1 then (some 100) else (some 99)))) (fun k => by rw [F.oned_code128ChooseCode.l0]) (Ev.bind (fct_run xs q hn (by omega) hr) ?_)⟩
      rw [h]; exact Ev.now _
    · refine ⟨100, .inr rfl, Ev.step (f := fun k => (F.oned_code128FindCType.f k xs q).bind fun t538 => (if t538 = 2 then (F.oned_code128ChooseCode.l0 k xs (wrap64 ((q : Int) + 2))) else (if t538 = 1 then (some 100) else (some 99)))) (fun k => by rw [F.oned_code128ChooseCode.l0]) (Ev.bind (fct_run xs q hn (by omega) hr) ?_)⟩
      rw [h]; exact Ev.now _
    · have := two_facts h; omega
  | succ d ih =>
    intro q hq hq2
    rcases fct_cases xs q with h | h | ⟨h, ht⟩
    · refine ⟨99, .inl rfl, Ev.step (f := fun k => (F.oned_code128FindCType.f k xs q).bind fun t538 => (if t538 = 2 then (F.oned_code128ChooseCode.l0 k xs (wrap64 ((q : Int) + 2))) else (if t538 = 1 then (some 100) else (some 99)))) (fun k => by rw [F.oned_code128ChooseCode.l0]) (Ev.bind (fct_run xs q hn (by omega) hr) ?_)⟩
      rw [h]; exact Ev.now _
    · refine ⟨100, .inr rfl, Ev.step (f := fun k => (F.oned_code128FindCType.f k xs q).bind fun t538 => (if t538 = 2 then (F.oned_code128ChooseCode.l0 k xs (wrap64 ((q : Int) + 2))) else (if t538 = 1 then (some 100) else (some 99)))) (fun k => by rw [F.oned_code128ChooseCode.l0]) (Ev.bind (fct_run xs q hn (by omega) hr) ?_)⟩
      rw [h]; exact Ev.now _
    · have ht := two_facts ht
      obtain ⟨r, hr1, hr2⟩ := ih (q + 2) (by omega) (by omega)
      refine ⟨r, hr1, Ev.step (f := fun k => (F.oned_code128FindCType.f k xs q).bind fun t538 => (if t538 = 2 then (F.oned_code128ChooseCode.l0 k xs (wrap64 ((q : Int) + 2))) else (if t538 = 1 then (some 100) else (some 99)))) (fun k => by rw [F.oned_code128ChooseCode.l0]) (Ev.bind (fct_run xs q hn (by omega) hr) ?_)⟩
      rw [h, w64c _ (by omega) (by omega)]
      exact hr2
theorem late_run (xs : List Int) (hn : xs.length ≤ 1000) (hr : ∀ v ∈ xs, 0 ≤ v ∧ v < 128) (p : Nat) (hp : p < xs.length) : ∃ r : Int, (r = 99 ∨ r = 100) ∧ Ev (fun k => F.oned_code128ChooseCode.j0 k xs p 100 2 false) r := by
  have hw : wrap64 ((p : Int) + 2) = ((p + 2 : Nat) : Int) := by rw [w64c _ (by omega) (by omega)]; rfl
  have hw4 : wrap64 ((p : Int) + 4) = ((p + 4 : Nat) : Int) := by rw [w64c _ (by omega) (by omega)]; rfl
  have hfold : ∀ r : Int, Ev (fun k => if fct xs (p + 2) = 0 then (F.oned_code128ChooseCode.j1 k xs p (fct xs (p + 2)) true) else (F.oned_code128ChooseCode.j1 k xs p (fct xs (p + 2)) (fct xs (p + 2) == 1))) r → Ev (fun k => F.oned_code128ChooseCode.j0 k xs p 100 2 false) r := by
    intro r h
    refine Ev.step (f := fun k => (F.oned_code128FindCType.f k xs ((p + 2 : Nat) : Int)).bind fun t536 => (if t536 = 0 then (F.oned_code128ChooseCode.j1 k xs p t536 true) else (F.oned_code128ChooseCode.j1 k xs p t536 (t536 == 1)))) (fun k => ?_) (Ev.bind (fct_run xs (p + 2) hn (by omega) hr) h)
    rw [F.oned_code128ChooseCode.j0, if_neg (by simp), if_neg (by omega), if_pos rfl, if_neg (by omega), hw]
  rcases fct_cases xs (p + 2) with h | h | ⟨h, ht⟩
  · refine ⟨100, .inr rfl, hfold 100 ?_⟩
    rw [h]
    exact Ev.step (f := fun _ => some 100) (fun k => by rw [if_pos rfl, F.oned_code128ChooseCode.j1, if_pos rfl]) (Ev.now _)
  · refine ⟨100, .inr rfl, hfold 100 ?_⟩
    rw [h]
    exact Ev.step (f := fun _ => some 100) (fun k => by rw [if_neg (by omega), F.oned_code128ChooseCode.j1, if_pos (by rfl)]) (Ev.now _)
  · obtain ⟨r, hr1, hr2⟩ := far_run xs hn hr 1000 (p + 4) (by omega) (by omega)
    refine ⟨r, hr1, hfold r ?_⟩
    rw [h]
    exact Ev.step (fun k => by rw [if_neg (by omega), F.oned_code128ChooseCode.j1, if_neg (by decide), if_neg (by omega), hw4]) hr2
theorem exists_X (xs : List Int) (hn : xs.length ≤ 1000) (hr : ∀ v ∈ xs, 0 ≤ v ∧ v < 128) : ∃ X : Nat → Int, (∀ p, X p = 99 ∨ X p = 100) ∧ ∀ p, p < xs.length → Ev (fun k => F.oned_code128ChooseCode.j0 k xs p 100 2 false) (X p) := by
  have h : ∀ p : Nat, ∃ r : Int, (r = 99 ∨ r = 100) ∧ (p < xs.length → Ev (fun k => F.oned_code128ChooseCode.j0 k xs p 100 2 false) r) := by
    intro p
    by_cases hp : p < xs.length
    · obtain ⟨r, h1, h2⟩ := late_run xs hn hr p hp
      exact ⟨r, h1, fun _ => h2⟩
    · exact ⟨99, .inl rfl, fun h => absurd h hp⟩
  exact ⟨fun p => (h p).choose, fun p => (h p).choose_spec.1, fun p hp => (h p).choose_spec.2 hp⟩
theorem choE (xs : List Int) (X : Nat → Int) (hn : xs.length ≤ 1000) (hr : ∀ v ∈ xs, 0 ≤ v ∧ v < 128) (hX : ∀ p, p < xs.length → Ev (fun k => F.oned_code128ChooseCode.j0 k xs p 100 2 false) (X p)) (p : Nat) (hp : p < xs.length) (old : Int) (ho : old = 0 ∨ old = 99 ∨ old = 100 ∨ old = 101) :
    Ev (fun k => F.oned_code128ChooseCode.f k xs p old) (cho xs X p old) := by
  have hx : 0 ≤ rd xs p ∧ rd xs p < 128 := by
    have : rd xs (p : Int) = xs[p] := by unfold rd; rw [Int.toNat_natCast, List.getD_eq_getElem?_getD, List.getElem?_eq_getElem hp]; rfl
    rw [this]; exact hr _ (List.getElem_mem hp)
  refine Ev.congr (fun k => by rw [F.oned_code128ChooseCode.f]) (Ev.bind (fct_run xs p hn (by omega) hr) ?_)
  unfold cho fct
  by_cases h2 : two128 xs p = true
  · rw [if_pos h2, if_pos h2]
    by_cases h1 : old = 100
    · subst h1
      rw [if_pos rfl]
      exact Ev.congr (fun k => by rw [if_neg (show ¬ (2 : Int) = 1 by decide), if_neg (show ¬ (2 : Int) = 0 by decide), if_neg (show ¬ (100 : Int) = 101 by decide)]) (hX p hp)
    · rw [if_neg h1]
      rcases ho with rfl | rfl | rfl | rfl
      · exact Ev.step (f := fun _ => some 99) (fun k => by rw [if_neg (show ¬ (2 : Int) = 1 by decide), if_neg (show ¬ (2 : Int) = 0 by decide), if_neg (show ¬ (0 : Int) = 101 by decide), F.oned_code128ChooseCode.j0]; rfl) (Ev.now _)
      · exact Ev.step (f := fun _ => some 99) (fun k => by rw [if_neg (show ¬ (2 : Int) = 1 by decide), if_neg (show ¬ (2 : Int) = 0 by decide), if_neg (show ¬ (99 : Int) = 101 by decide), F.oned_code128ChooseCode.j0]; rfl) (Ev.now _)
      · exact absurd rfl h1
      · exact Ev.step (f := fun _ => some 99) (fun k => by rw [if_neg (show ¬ (2 : Int) = 1 by decide), if_neg (show ¬ (2 : Int) = 0 by decide), if_pos (show (101 : Int) = 101 by decide), F.oned_code128ChooseCode.j0]; rfl) (Ev.now _)
  · rw [if_neg h2, if_neg h2]
    by_cases h1 : one128 xs p = true
    · rw [if_pos h1, if_pos ⟨hp, h1⟩]
      exact Ev.congr (f := fun _ => some (if old = 101 then 101 else 100)) (fun k => by rw [if_pos (show (1 : Int) = 1 by decide)]; split <;> rfl) (Ev.now _)
    · rw [if_neg h1, if_neg (fun hh => h1 hh.2)]
      refine Ev.congr (f := fun _ => some (if rd xs p < 32 ∨ (old = 101 ∧ rd xs p < 96) then 101 else 100)) (fun k => ?_) (Ev.now _)
      rw [if_neg (show ¬ (0 : Int) = 1 by decide), if_pos (show (0 : Int) = 0 by decide), if_pos (show (p : Int) < (xs.length : Int) by omega), if_pos (show 0 ≤ (p : Int) by omega)]
      by_cases h3 : rd xs p < 32
      · rw [if_pos h3, if_pos (.inl h3)]
      · rw [if_neg h3]
        by_cases h4 : old = 101
        · rw [if_pos h4]
          by_cases h5 : rd xs p < 96
          · rw [if_pos h5, if_pos (.inr ⟨h4, h5⟩)]
          · rw [if_neg h5, if_neg (by omega), if_neg (by omega)]
        · rw [if_neg h4, if_neg (by omega)]

/-! ### Code 128's encoder -/
theorem mul_bound (v wt : Int) (h0 : 0 ≤ v) (h1 : v ≤ 105) (h2 : 1 ≤ wt) (h3 : wt ≤ 122) : v * wt ≤ 12810 := by
  have := Int.mul_le_mul h1 h3 (by omega) (show (0 : Int) ≤ 105 by omega)
  omega
theorem rows_snoc {w5 w6 : World} {base b0 n : Nat} {v v1 : Value} {hs : List Value} {acc : List Int} (x : Int) (g : Nat) (hown : w5.ownsRow base 40 1 v hs.length hs) (htk : Took w5 base hs acc) (hk : Blk w5 g 3 (nums .i64 (pat128 x)).toArray) (hg : base ≤ g) (hgr : w5.grownBy w6 v.ownBlock)
    (ho : w6.ownsRow base 40 1 v1 (hs ++ [Value.slice (some ⟨g, 0, none⟩) (pat128 x).length (pat128 x).length]).length (hs ++ [Value.slice (some ⟨g, 0, none⟩) (pat128 x).length (pat128 x).length])) : Rows w6 base v1 (acc ++ [x]) :=
  ⟨_, ho, (htk.grown hown hgr).snoc x g ((hgr.block g hk.lt (own_ne hown hk (by decide))).trans hk) hg⟩
theorem runes_grown {w5 w6 : World} {base n g : Nat} {v : Value} {hs : List Value} {cs : Array Value} (hown : w5.ownsRow base 40 1 v n hs) (hk : Blk w5 g 21 cs) (hgr : w5.grownBy w6 v.ownBlock) : Blk w6 g 21 cs := (hgr.block g hk.lt (own_ne hown hk (by decide))).trans hk
theorem code_pre (gs : List Int) (q : Nat) : (code128 (gs.take q)).length ≤ (code128 gs).length := by
  have h := code128_append (gs.take q) (gs.drop q)
  rw [List.take_append_drop] at h
  rw [h, List.length_append]
  omega
theorem rd_small (ps : List Int) (h : ∀ p ∈ ps, 1 ≤ p ∧ p ≤ 4) (j : Nat) (hj : j < ps.length) : 1 ≤ rd ps j ∧ rd ps j ≤ 4 := by
  have : rd ps (j : Int) = ps[j] := by unfold rd; rw [Int.toNat_natCast, List.getD_eq_getElem?_getD, List.getElem?_eq_getElem hj]; rfl
  rw [this]; exact h _ (List.getElem_mem hj)
theorem sum_small (ps : List Int) (h : ∀ p ∈ ps, 1 ≤ p ∧ p ≤ 4) (j : Nat) : 0 ≤ (ps.take j).sum ∧ (ps.take j).sum ≤ 4 * (j : Int) := by
  induction ps generalizing j with
  | nil => simp; omega
  | cons p r ih =>
    cases j with
    | zero => simp
    | succ j =>
      have h1 := h p (by simp)
      have h2 := ih (fun x hx => h x (by simp [hx])) j
      rw [List.take_succ_cons, List.sum_cons]
      omega
theorem blk_C {W : World} {g : Nat} {xs : List Int} (h : Blk W g 3 (nums .i64 xs).toArray) (hm : xs.length ≤ 1000) : Kd.C (Kd.int .i64) W (some ⟨g, 0, none⟩) xs.length xs := by
  refine Kd.C_of_reads (d := (0 : Int)) (h1 := fun _ => rfl) ⟨rfl, by omega, fun _ => ⟨_, rfl, fun j hj => ?_⟩⟩
  rw [add_plain]
  have := h.ucell (j : Int) (by omega) (by omega)
  rw [Int.toNat_natCast] at this
  rw [this]
  unfold rd
  rw [Int.toNat_natCast]
theorem bars_sum (c : Bool) (ps : List Int) (h : ∀ p ∈ ps, 1 ≤ p ∧ p ≤ 4) : ((bars c ps).length : Int) = ps.sum := by
  induction ps generalizing c with
  | nil => rfl
  | cons p r ih =>
    have hp := h p (by simp)
    have hr := ih (!c) (fun x hx => h x (by simp [hx]))
    rw [bars, List.length_append, List.length_replicate, List.sum_cons, ← hr]
    omega
theorem sum_take (ps : List Int) (j : Nat) (h : j < ps.length) : (ps.take (j + 1)).sum = (ps.take j).sum + rd ps j := by
  rw [List.take_succ_eq_append_getElem h, List.sum_append]
  have : rd ps (j : Int) = ps[j] := by unfold rd; rw [Int.toNat_natCast, List.getD_eq_getElem?_getD, List.getElem?_eq_getElem h]; rfl
  rw [this]; simp
theorem code_take (fs : List Int) (i : Nat) (h : i < fs.length) : code128 (fs.take (i + 1)) = code128 (fs.take i) ++ mods (rd fs i) := by
  rw [List.take_succ_eq_append_getElem h, code128_append, code128_one]
  have : rd fs (i : Int) = fs[i] := by unfold rd; rw [Int.toNat_natCast, List.getD_eq_getElem?_getD, List.getElem?_eq_getElem h]; rfl
  rw [this]
/-- The rows of a slice of rows, block by block. -/
def Laid (w : World) (b : Nat) (vs : List Int) : Prop :=
  ∃ cur : Array Value, Blk w b 40 cur ∧ ∀ i, i < vs.length → ∃ g, cur[i]? = some (.slice (some ⟨g, 0, none⟩) (pat128 (rd vs i)).length (pat128 (rd vs i)).length) ∧ Blk w g 3 (nums .i64 (pat128 (rd vs i))).toArray
theorem Rows.laid {w : World} {base : Nat} {v : Value} {vs : List Int} (h : Rows w base v vs) (h0 : 0 < vs.length) : ∃ b cap, v = .slice (some ⟨b, 0, none⟩) vs.length cap ∧ vs.length ≤ cap ∧ base ≤ b ∧ Laid w b vs := by
  obtain ⟨hs, ⟨hl, ho⟩, ht1, ht2⟩ := h
  rcases ho with ⟨_, hz⟩ | ⟨b, cap, cur, rfl, hb, hh, hc, _, hcs, hct⟩
  · rw [ht1] at hz; omega
  · refine ⟨b, cap, by rw [ht1], by rw [← ht1]; exact hc, hb, cur, hh, fun i hi => ?_⟩
    obtain ⟨g, h1, h2, _⟩ := ht2 i hi
    refine ⟨g, ?_, h2⟩
    rw [← h1, ← hct, List.getElem?_take, if_pos (by rw [ht1]; omega), Array.getElem?_toList]
theorem Laid.below {w w' : World} {b : Nat} {vs : List Int} (h : Laid w b vs) (hb : Below w.heap.size w w') : Laid w' b vs := by
  obtain ⟨cur, h1, h2⟩ := h
  refine ⟨cur, h1.below hb h1.lt, fun i hi => ?_⟩
  obtain ⟨g, h3, h4⟩ := h2 i hi
  exact ⟨g, h3, h4.below hb h4.lt⟩
theorem Laid.upd {w w' : World} {b gt : Nat} {vs : List Int} {cs : Array Value} (h : Laid w b vs) (hg : Blk w gt 4 cs) (hu : Upd w w' gt) : Laid w' b vs := by
  obtain ⟨cur, h1, h2⟩ := h
  have ne : ∀ {k : Nat} {t : TypeId} {ds : Array Value}, Blk w k t ds → t ≠ 4 → k ≠ gt := by
    intro k t ds hk ht e
    subst e
    unfold Blk at hk hg
    rw [hg] at hk
    injection hk with hk
    injection hk with _ hk
    exact ht hk.symm
  refine ⟨cur, hu.blk h1 (ne h1 (by decide)), fun i hi => ?_⟩
  obtain ⟨g, h3, h4⟩ := h2 i hi
  exact ⟨g, h3, hu.blk h4 (ne h4 (by decide))⟩
theorem Laid.get {w : World} {b : Nat} {vs : List Int} (h : Laid w b vs) (i : Nat) (hi : i < vs.length) : ∃ g, w.cell? ⟨b, i, none⟩ = some (.slice (some ⟨g, 0, none⟩) (pat128 (rd vs i)).length (pat128 (rd vs i)).length) ∧ Blk w g 3 (nums .i64 (pat128 (rd vs i))).toArray := by
  obtain ⟨cur, h1, h2⟩ := h
  obtain ⟨g, h3, h4⟩ := h2 i hi
  exact ⟨g, by rw [h1.cell]; exact h3, h4⟩
def mu128 (xs : List Int) (X : Nat → Int) (n p : Nat) (s : Int) : Nat := 2 * (n - p) + (if cho xs X p s = s then 0 else 1)
theorem mu_take (xs : List Int) (X : Nat → Int) (n p q : Nat) (s : Int) (h : p < q) (hp : p < n) : mu128 xs X n q s < mu128 xs X n p s := by
  unfold mu128
  have h1 : (if cho xs X q s = s then 0 else 1) ≤ 1 := by split <;> omega
  omega
theorem mu_turn (xs : List Int) (X : Nat → Int) (hX : ∀ p, X p = 99 ∨ X p = 100) (n p : Nat) (s c : Int) (hc : cho xs X p s = c) (hne : ¬ c = s) : mu128 xs X n p c < mu128 xs X n p s := by
  unfold mu128
  have h1 := cho_idem xs X hX p s
  rw [hc] at h1 ⊢
  rw [if_pos h1, if_neg hne]
  omega
theorem make_rows (W : World) : (Instr.makeSlice 188 (.int .i64 0) (.int .i64 0)).run Tryz.prog W = .ok (.slice (some ⟨W.heap.size, 0, none⟩) 0 0) (W.alloc (.cells #[] 40)) := by
  obtain ⟨i, hi, hz, hs, hb⟩ := info_parts F.info40
  have := run_make_rowN (P := Tryz.prog) 188 40 i (.slice none 0 0) Tryz.underlying188 hi hz .i64 .i64 0 0 (Nat.le_refl _) (by rw [hb]; omega) (by omega) W
  have e : madeCells (Value.slice none 0 0).cells (0 * i.size) = #[] := by exact Array.eq_empty_of_size_eq_zero (by simp [size_madeCells])
  rw [e] at this
  exact this
theorem rows_made (W : World) (base : Nat) (hb : base ≤ W.heap.size) : Rows (W.alloc (.cells #[] 40)) base (.slice (some ⟨W.heap.size, 0, none⟩) 0 0) [] :=
  ⟨[], World.ownsRow_lit (base := base) (e := 40) (size := 1) W #[] 0 hb (by simp [maxLen]) (by simp), Took.nil _ _⟩
/-- The choice of the set, asked of the program. -/
theorem choose155 (xs : List Int) (X : Nat → Int) (n : Nat) (hn : xs.length = n) (hm : n ≤ 60) (hr : ∀ v ∈ xs, 0 ≤ v ∧ v < 128) (hXE : ∀ p, p < xs.length → Ev (fun k => F.oned_code128ChooseCode.j0 k xs p 100 2 false) (X p)) (g c : Nat) (hc : n ≤ c) (zs : List Value) (p : Nat) (hp : p < n) (s : Int) (ho : s = 0 ∨ s = 99 ∨ s = 100 ∨ s = 101) (W : World) (hk : Blk W g 21 (nums .i32 xs ++ zs).toArray) :
    Calls Tryz.prog 155 #[.slice (some ⟨g, 0, none⟩) n c, .int .i64 p, .int .i64 s] W fun e w' => e = .returned (.int .i64 (cho xs X p s)) ∧ Below W.heap.size W w' := by
  subst hn
  obtain ⟨kf, hkf⟩ := (choE xs X (by omega) hr hXE p hp s ho).rounds
  refine (F.oned_code128ChooseCode.calls kf (some ⟨g, 0, none⟩) c xs p s _ W (runes_C hk (by omega)) hc hkf).mono ?_
  rintro e w' ⟨rfl, nd, rfl⟩
  exact ⟨rfl, pw_below_drewN (Below.refl _ _) _⟩
set_option maxHeartbeats 40000000 in
set_option maxRecDepth 100000 in
theorem enc128_calls (w : World) (gm : Nat) (mg : Int) (xs : List Int) (X : Nat → Int) (n : Nat) (hn : xs.length = n) (h0 : 0 < n) (hn2 : n ≤ 60) (hr : ∀ v ∈ xs, 0 ≤ v ∧ v < 128) (hX : ∀ p, X p = 99 ∨ X p = 100)
    (hXE : ∀ p, p < xs.length → Ev (fun k => F.oned_code128ChooseCode.j0 k xs p 100 2 false) (X p)) (hm : w.heap[gm]? = some (.map #[⟨.int .i64 5, .iface 3 (.int .i64 mg), 0⟩] 1)) :
    Calls Tryz.prog 153 #[.agg #[], .string (strOfNums xs), .map (some gm)] w fun e w' => ∃ v, e = .returned (.tuple #[v, .nilIface]) ∧ Kd.R Kd.bool 4 w' w.heap.size (fun _ => True) v (code128 (full128 xs X ++ [chk128 (full128 xs X)] ++ [106])) ∧ Below w.heap.size w w' := by
  have hA0 := below_alloc (Below.refl w.heap.size w) (.cells #[] 91)
  have hml := (Array.getElem?_eq_some_iff.1 hm).1
  obtain ⟨c, W1, hc, hconv, hb1, zs, hk1⟩ := conv_runes xs n hn (by omega) hr (w.alloc (.cells #[] 91))
  have hbb : Below w.heap.size w W1 := hA0.trans (hb1.mono hA0.size)
  have hlk := run_lk_no W1 gm (.iface 3 (.int .i64 mg)) ((hbb.block gm hml).trans hm)
  obtain ⟨T, hT⟩ : ∃ T, strOfNums xs = T := ⟨_, rfl⟩
  obtain ⟨gr, hgr⟩ : ∃ gr, (w.alloc (.cells #[] 91)).heap.size = gr := ⟨_, rfl⟩
  have hgw : w.heap.size ≤ gr := by rw [← hgr]; exact hA0.size
  rw [hgr] at hconv hk1
  rw [hT] at hconv ⊢
  have hrd : ∀ k : Nat, k < n → 0 ≤ rd xs k ∧ rd xs k < 128 := by
    intro k hk
    have : rd xs (k : Int) = xs[k] := by unfold rd; rw [Int.toNat_natCast, List.getD_eq_getElem?_getD, List.getElem?_eq_getElem (by omega)]; rfl
    rw [this]; exact hr _ (List.getElem_mem _)
  have HRD := Aside0.mk hrd
  have HR := Aside0.mk hr
  have HXX := Aside0.mk hX
  have HXE := Aside0.mk hXE
  have HK1 := Aside0.mk hk1
  have HN := Aside0.mk hn
  have HB1 := Aside0.mk hbb
  have hmk := make_rows W1
  have q1 : decide ((n : Int) < 1) = false := decide_eq_false (by omega)
  have q2 : decide ((80 : Int) < (n : Int)) = false := decide_eq_false (by omega)
  clear hr hX hXE hk1 hn hbb hb1 hA0 hm hml hgr hT hrd
  go_enter Tryz.func153, Tryz.ntmps153
  go_wp2_with fail
  go_loopw [14] (fun v wi => ∃ k : Nat, k ≤ n ∧ v = .int .i64 k ∧ W1 = wi) (fun v _ => n - (intOf v).toNat)
  case atStart => exact ⟨0, by omega, rfl, rfl⟩
  case round =>
    obtain ⟨k, hk, rfl, rfl⟩ := hrel
    by_cases hlt : k < n
    · have hcell := runes_cell HK1.out k (by rw [HN.out]; exact hlt)
      have hx := HRD.out k hlt
      obtain ⟨b, hb⟩ : ∃ b, rd xs k = b := ⟨_, rfl⟩
      rw [hb] at hcell hx
      have e1 : (b == 241) = false := beq_eq_false_iff_ne.2 (by omega)
      have e2 : (b == 242) = false := beq_eq_false_iff_ne.2 (by omega)
      have e3 : (b == 243) = false := beq_eq_false_iff_ne.2 (by omega)
      have e4 : (b == 244) = false := beq_eq_false_iff_ne.2 (by omega)
      have e5 : decide (127 < b) = false := decide_eq_false (by omega)
      clear hb
      go_wp2_with fail
      go_roundw
      case rel => exact ⟨k + 1, by omega, by go_num, trivial⟩
      case measure => simp [intOf]; omega
    · have hkn : k = n := by omega
      subst hkn
      clear hk hlt
      obtain ⟨gp, hgp⟩ : ∃ gp, W1.heap.size = gp := ⟨_, rfl⟩
      obtain ⟨W2, hW2⟩ : ∃ W2, W1.alloc (.cells #[] 40) = W2 := ⟨_, rfl⟩
      have HO2 := Aside0.mk (show Rows W2 w.heap.size (.slice (some ⟨gp, 0, none⟩) 0 0) [] by rw [← hW2, ← hgp]; exact rows_made W1 _ HB1.out.size)
      have hb2 := below_alloc (Below.refl W1.heap.size W1) (.cells #[] 40)
      rw [hW2] at hb2 hmk
      rw [hgp] at hmk
      have HK2 := Aside0.mk (HK1.out.below hb2 HK1.out.lt)
      have HB2 := Aside0.mk (HB1.out.trans (hb2.mono HB1.out.size))
      clear hb2 hW2 hgp HK1 hconv hlk
      go_wp2
      go_loopw [16, 17, 18, 19, 20] (fun pv sv wv cv qv wi => ∃ (i p : Nat) (s : Int) (acc : List Int), Aside0 (mach xs X i = ⟨p, s, acc⟩) ∧ Aside0 (acc.length = i) ∧ p ≤ k ∧ qv = .int .i64 p ∧ cv = .int .i64 s ∧ sv = .int .i64 (sum128 xs X i) ∧ wv = .int .i64 (wt128 i) ∧ Aside0 (Rows wi w.heap.size pv acc) ∧ Aside0 (Below w.heap.size w wi) ∧ Aside0 (Blk wi gr 21 (nums .i32 xs ++ zs).toArray))
        (fun _ _ _ cv qv _ => mu128 xs X k (intOf qv).toNat (intOf cv))
      case atStart => exact ⟨0, 0, 0, [], ⟨rfl⟩, ⟨rfl⟩, by omega, rfl, rfl, rfl, rfl, HO2, HB2, HK2⟩
      case round =>
        obtain ⟨i, p, s, acc, HM, HL, hpk, rfl, rfl, rfl, rfl, HO, HB, HK⟩ := hrel
        clear HO2 HB2 HK2 hmk
        by_cases hp : p < k
        · have hpl : p < xs.length := by rw [HN.out]; exact hp
          have hx := HRD.out p hp
          have hxl0 : 0 < xs.length := by rw [HN.out]; omega
          have hxl1 : xs.length ≤ 60 := by rw [HN.out]; omega
          have hsort := mach_sort xs X HXX.out HR.out i p s acc HM.out HL.out
          have ho : s = 0 ∨ s = 99 ∨ s = 100 ∨ s = 101 := by
            rcases hsort.2 with ⟨_, _, h⟩ | ⟨h, _⟩
            · exact .inl h
            · exact .inr h
          have HCALL := Aside0.mk (fun W => choose155 xs X k HN.out hn2 HR.out HXE.out gr c hc zs p hp s ho W)
          have hcc := cho_cases xs X HXX.out p s
          obtain ⟨cc, hcv⟩ : ∃ cc, cho xs X p s = cc := ⟨_, rfl⟩
          rw [hcv] at hcc HCALL
          obtain ⟨S, hS⟩ : ∃ S, sum128 xs X i = S := ⟨_, rfl⟩
          obtain ⟨wt, hwt⟩ : ∃ wt, wt128 i = wt := ⟨_, rfl⟩
          rw [hS, hwt]
          have hsb := sum_bound xs X HXX.out HR.out hxl0 hxl1 i
          rw [hS] at hsb
          have HCV := Aside0.mk hcv
          have HSB := Aside0.mk hsb
          have HSS := Aside0.mk hS
          have HWW := Aside0.mk hwt
          have HSORT := Aside0.mk hsort
          clear hcv hsb hS hwt hsort
          by_cases hs : cc = s
          · subst hs
            rcases hcc with ⟨rfl, ht⟩ | ⟨rfl, hb⟩ | ⟨rfl, hb⟩
            · have hval : val128 xs p 99 = (rd xs p - 48) * 10 + (rd xs (p + 1 : Nat) - 48) := by unfold val128; rw [if_neg (by decide), if_neg (by decide)]
              have hmn := mach_take xs X i p 99 acc HM.out hpl HCV.out
              rw [hval, if_pos rfl] at hmn
              have hi1 : 1 ≤ i := by have := HSORT.out.2; omega
              have htf := two_facts ht
              obtain ⟨b, hbv⟩ : ∃ b, rd xs p = b := ⟨_, rfl⟩
              obtain ⟨b1, hbv1⟩ : ∃ b, rd xs (p + 1 : Nat) = b := ⟨_, rfl⟩
              rw [hbv, hbv1] at hmn htf
              rw [hbv] at hx
              obtain ⟨ht0, ht1, ht2, ht3, ht4⟩ := htf
              have ht5 : p + 1 < k := by have := HN.out; omega
              obtain ⟨v, hv⟩ : ∃ v, (b - 48) * 10 + (b1 - 48) = v := ⟨_, rfl⟩
              rw [hv] at hmn
              have HMN := Aside0.mk hmn
              clear hmn hval ht

              have hstep := sum_step xs X HXX.out HR.out hxl0 hxl1 i p _ acc v HM.out HL.out hpl (by rw [HMN.out])
              obtain ⟨hi122, hv0, hv1, hsum⟩ := hstep
              rw [HSS.out, HWW.out] at hsum
              have hsb := HSB.out (by omega)
              have hwr : 1 ≤ wt ∧ wt ≤ 122 := by rw [← HWW.out]; unfold wt128; split <;> omega
              obtain ⟨m, hmul⟩ : ∃ m, v * wt = m := ⟨_, rfl⟩
              have hm0 : 0 ≤ m := by first | omega | (rw [← hmul]; exact Int.mul_nonneg hv0 (by omega))
              have hm1 : m ≤ 12810 := by first | omega | (rw [← hmul]; exact mul_bound _ _ hv0 hv1 hwr.1 hwr.2)
              rw [hmul] at hsum
              have HSUM := Aside0.mk hsum
              have HWN := Aside0.mk (show wt + 1 = wt128 (i + 1) by
                rw [← HWW.out]; unfold wt128
                rw [if_neg (show ¬ i = 0 by omega), if_neg (by omega)]; omega)
              have HV := Aside0.mk (show (0 : Int) ≤ v ∧ v ≤ (106 : Int) from ⟨hv0, by omega⟩)
              clear hsum
              obtain ⟨hsb0, hsb1⟩ := hsb
              obtain ⟨hwr0, hwr1⟩ := hwr
              go_wp2_with fail
              refine (HCALL.out _ HK.out).mono ?_
              rintro e w4 ⟨rfl, hb4⟩
              have HO4 := Aside0.mk (HO.out.below hb4)
              have HK4 := Aside0.mk (HK.out.below hb4 HK.out.lt)
              have HB4 := Aside0.mk (HB.out.trans (hb4.mono HB.out.size))
              clear hb4 HO HK HB HCALL

              have hcell := runes_cell HK4.out p hpl
              rw [hbv] at hcell
              have hcell1 := runes_cell HK4.out (p + 1) ht2
              rw [hbv1] at hcell1
              have hcell2 : w4.cell? ⟨gr, ((p : Int) + 1).toNat, none⟩ = some (.int .i32 b1) := hcell1
              have hcvt := conv_rune b hx
              have hcvt1 := conv_rune b1 (by omega)
              have k1 : IntKind.i64.wrap (b - 48) = b - 48 := IntWalk.i64_in _ (by omega)
              have k2 : IntKind.i64.wrap ((b - 48) * 10) = (b - 48) * 10 := IntWalk.i64_in _ (by omega)
              have k3 : IntKind.i64.wrap ((p : Int) + 1) = (p : Int) + 1 := IntWalk.i64_in _ (by omega)
              have k4 : IntKind.i64.wrap (b1 - 48) = b1 - 48 := IntWalk.i64_in _ (by omega)
              have k5 : IntKind.i64.wrap v = v := IntWalk.i64_in _ (by omega)
              have k6 : (p : Int) + 1 < (k : Int) := by omega

              have e1 : (b == 241) = false := beq_eq_false_iff_ne.2 (by omega)
              have e2 : (b == 242) = false := beq_eq_false_iff_ne.2 (by omega)
              have e3 : (b == 243) = false := beq_eq_false_iff_ne.2 (by omega)
              have e4 : (b == 244) = false := beq_eq_false_iff_ne.2 (by omega)
              have e9 : ((p : Int) + 1 + 1 != 0) = true := bne_iff_ne.2 (by omega)
              have e10 : ((p : Int) + 1 == (k : Int)) = false := beq_eq_false_iff_ne.2 (by omega)
              clear hbv hbv1

              go_wp2_with fail
              try go_quiet (fail)
              try go_wp2_with fail
              refine (patAt _ v HV.out).mono ?_
              rintro e w5 ⟨A, g, rfl, hcl, hbk, hg, hb5⟩
              have hb5' : Below w4.heap.size w4 w5 := by first | exact hb5 | exact (pw_below_drewN (Below.refl _ _) _).trans hb5
              obtain ⟨hs, hown, htk⟩ := HO4.out.below hb5'
              have hhl : hs.length ≤ 200 := by rw [htk.1, HL.out]; omega
              have HOW := Aside0.mk hown
              have HTK := Aside0.mk htk
              have HBK := Aside0.mk hbk
              have HK5 := Aside0.mk (HK4.out.below hb5' HK4.out.lt)
              have HB5 := Aside0.mk (HB4.out.trans (hb5'.mono HB4.out.size))
              have HG := Aside0.mk (show w.heap.size ≤ g from Nat.le_trans HB4.out.size (by first | exact hg | exact Nat.le_trans (pw_below_drewN (Below.refl _ w4) _).size hg))
              obtain ⟨pl, hpl2⟩ : ∃ pl, (pat128 v).length = pl := ⟨_, rfl⟩
              rw [hpl2] at hcl
              have HPL := Aside0.mk hpl2
              clear hown htk hbk hb5 hb5' HO4 HK4 HB4 hg hpl2
              go_wp2_with (((with_reducible refine gate_builtin (b := .append) (xs := #[.tmp 228, .tmp 233]) rfl ?_); at_builtin; refine print_append (w0 := w) w.heap.size rfl (.tmp 228) (.tmp 233) 188 40 (.slice none 0 0) 24 rfl Tryz.underlying188 F.info40 rfl (by decide) _ hs _ rfl rfl rfl HOW.out HB5.out HB5.out.size ?aL ?_; (case aL => omega); intro v1 w6 ho6 hb6 hg6 hat; have HO6 := Aside0.mk (rows_snoc (b0 := 0) (n := 0) v g HOW.out HTK.out HBK.out HG.out hg6 (by rw [HPL.out]; exact ho6)); have HK6 := Aside0.mk (runes_grown HOW.out HK5.out hg6); have HB6 := Aside0.mk hb6; clear ho6 hb6 hg6 hat))
              go_roundw
              case rel => exact ⟨i + 1, p + 2, 99, acc ++ [v], HMN, ⟨by simp [HL.out]⟩, by omega, by go_num, by rfl, by rw [HSUM.out], by rw [HWN.out], HO6, HB6, HK6⟩
              case measure =>
                show mu128 xs X k ((p : Int) + 1 + 1).toNat 99 < mu128 xs X k (p : Int).toNat 99
                exact mu_take _ _ _ _ _ _ (by omega) (by omega)
            · -- B
              have hval : val128 xs p 100 = rd xs p - 32 := by unfold val128; rw [if_neg (by decide), if_pos rfl]
              have hmn := mach_take xs X i p 100 acc HM.out hpl HCV.out
              rw [hval, if_neg (by decide)] at hmn
              have hi1 : 1 ≤ i := by have := HSORT.out.2; omega
              have hb32 := hb
              obtain ⟨b, hbv⟩ : ∃ b, rd xs p = b := ⟨_, rfl⟩
              rw [hbv] at hmn hb32 hx
              obtain ⟨v, hv⟩ : ∃ v, b - 32 = v := ⟨_, rfl⟩
              rw [hv] at hmn
              have HMN := Aside0.mk hmn
              clear hmn hval hb

              have hstep := sum_step xs X HXX.out HR.out hxl0 hxl1 i p _ acc v HM.out HL.out hpl (by rw [HMN.out])
              obtain ⟨hi122, hv0, hv1, hsum⟩ := hstep
              rw [HSS.out, HWW.out] at hsum
              have hsb := HSB.out (by omega)
              have hwr : 1 ≤ wt ∧ wt ≤ 122 := by rw [← HWW.out]; unfold wt128; split <;> omega
              obtain ⟨m, hmul⟩ : ∃ m, v * wt = m := ⟨_, rfl⟩
              have hm0 : 0 ≤ m := by first | omega | (rw [← hmul]; exact Int.mul_nonneg hv0 (by omega))
              have hm1 : m ≤ 12810 := by first | omega | (rw [← hmul]; exact mul_bound _ _ hv0 hv1 hwr.1 hwr.2)
              rw [hmul] at hsum
              have HSUM := Aside0.mk hsum
              have HWN := Aside0.mk (show wt + 1 = wt128 (i + 1) by
                rw [← HWW.out]; unfold wt128
                rw [if_neg (show ¬ i = 0 by omega), if_neg (by omega)]; omega)
              have HV := Aside0.mk (show (0 : Int) ≤ v ∧ v ≤ (106 : Int) from ⟨hv0, by omega⟩)
              clear hsum
              obtain ⟨hsb0, hsb1⟩ := hsb
              obtain ⟨hwr0, hwr1⟩ := hwr
              go_wp2_with fail
              refine (HCALL.out _ HK.out).mono ?_
              rintro e w4 ⟨rfl, hb4⟩
              have HO4 := Aside0.mk (HO.out.below hb4)
              have HK4 := Aside0.mk (HK.out.below hb4 HK.out.lt)
              have HB4 := Aside0.mk (HB.out.trans (hb4.mono HB.out.size))
              clear hb4 HO HK HB HCALL

              have hcell := runes_cell HK4.out p hpl
              rw [hbv] at hcell
              have hcvt := conv_rune b hx

              have e1 : (b == 241) = false := beq_eq_false_iff_ne.2 (by omega)
              have e2 : (b == 242) = false := beq_eq_false_iff_ne.2 (by omega)
              have e3 : (b == 243) = false := beq_eq_false_iff_ne.2 (by omega)
              have e4 : (b == 244) = false := beq_eq_false_iff_ne.2 (by omega)
              have e9 : ((p : Int) + 1 != 0) = true := bne_iff_ne.2 (by omega)
              clear hbv

              go_wp2_with fail
              try go_quiet (fail)
              try go_wp2_with fail
              refine (patAt _ v HV.out).mono ?_
              rintro e w5 ⟨A, g, rfl, hcl, hbk, hg, hb5⟩
              have hb5' : Below w4.heap.size w4 w5 := by first | exact hb5 | exact (pw_below_drewN (Below.refl _ _) _).trans hb5
              obtain ⟨hs, hown, htk⟩ := HO4.out.below hb5'
              have hhl : hs.length ≤ 200 := by rw [htk.1, HL.out]; omega
              have HOW := Aside0.mk hown
              have HTK := Aside0.mk htk
              have HBK := Aside0.mk hbk
              have HK5 := Aside0.mk (HK4.out.below hb5' HK4.out.lt)
              have HB5 := Aside0.mk (HB4.out.trans (hb5'.mono HB4.out.size))
              have HG := Aside0.mk (show w.heap.size ≤ g from Nat.le_trans HB4.out.size (by first | exact hg | exact Nat.le_trans (pw_below_drewN (Below.refl _ w4) _).size hg))
              obtain ⟨pl, hpl2⟩ : ∃ pl, (pat128 v).length = pl := ⟨_, rfl⟩
              rw [hpl2] at hcl
              have HPL := Aside0.mk hpl2
              clear hown htk hbk hb5 hb5' HO4 HK4 HB4 hg hpl2
              go_wp2_with (((with_reducible refine gate_builtin (b := .append) (xs := #[.tmp 228, .tmp 233]) rfl ?_); at_builtin; refine print_append (w0 := w) w.heap.size rfl (.tmp 228) (.tmp 233) 188 40 (.slice none 0 0) 24 rfl Tryz.underlying188 F.info40 rfl (by decide) _ hs _ rfl rfl rfl HOW.out HB5.out HB5.out.size ?aL ?_; (case aL => omega); intro v1 w6 ho6 hb6 hg6 hat; have HO6 := Aside0.mk (rows_snoc (b0 := 0) (n := 0) v g HOW.out HTK.out HBK.out HG.out hg6 (by rw [HPL.out]; exact ho6)); have HK6 := Aside0.mk (runes_grown HOW.out HK5.out hg6); have HB6 := Aside0.mk hb6; clear ho6 hb6 hg6 hat))
              go_roundw
              case rel => exact ⟨i + 1, p + 1, 100, acc ++ [v], HMN, ⟨by simp [HL.out]⟩, by omega, by go_num, by rfl, by rw [HSUM.out], by rw [HWN.out], HO6, HB6, HK6⟩
              case measure =>
                show mu128 xs X k ((p : Int) + 1).toNat 100 < mu128 xs X k (p : Int).toNat 100
                exact mu_take _ _ _ _ _ _ (by omega) (by omega)
            · by_cases hl : rd xs p < 32
              · have hval : val128 xs p 101 = rd xs p + 64 := by unfold val128; rw [if_pos rfl, if_pos hl]
                have hmn := mach_take xs X i p 101 acc HM.out hpl HCV.out
                rw [hval, if_neg (by decide)] at hmn
                have hi1 : 1 ≤ i := by have := HSORT.out.2; omega
                obtain ⟨b, hbv⟩ : ∃ b, rd xs p = b := ⟨_, rfl⟩
                rw [hbv] at hmn hb hx hl
                obtain ⟨v, hv⟩ : ∃ v, b - 32 + 96 = v := ⟨_, rfl⟩
                rw [show b + 64 = b - 32 + 96 by omega] at hmn
                rw [hv] at hmn
                have HMN := Aside0.mk hmn
                clear hmn hval

                have hstep := sum_step xs X HXX.out HR.out hxl0 hxl1 i p _ acc v HM.out HL.out hpl (by rw [HMN.out])
                obtain ⟨hi122, hv0, hv1, hsum⟩ := hstep
                rw [HSS.out, HWW.out] at hsum
                have hsb := HSB.out (by omega)
                have hwr : 1 ≤ wt ∧ wt ≤ 122 := by rw [← HWW.out]; unfold wt128; split <;> omega
                obtain ⟨m, hmul⟩ : ∃ m, v * wt = m := ⟨_, rfl⟩
                have hm0 : 0 ≤ m := by first | omega | (rw [← hmul]; exact Int.mul_nonneg hv0 (by omega))
                have hm1 : m ≤ 12810 := by first | omega | (rw [← hmul]; exact mul_bound _ _ hv0 hv1 hwr.1 hwr.2)
                rw [hmul] at hsum
                have HSUM := Aside0.mk hsum
                have HWN := Aside0.mk (show wt + 1 = wt128 (i + 1) by
                  rw [← HWW.out]; unfold wt128
                  rw [if_neg (show ¬ i = 0 by omega), if_neg (by omega)]; omega)
                have HV := Aside0.mk (show (0 : Int) ≤ v ∧ v ≤ (106 : Int) from ⟨hv0, by omega⟩)
                clear hsum
                obtain ⟨hsb0, hsb1⟩ := hsb
                obtain ⟨hwr0, hwr1⟩ := hwr
                go_wp2_with fail
                refine (HCALL.out _ HK.out).mono ?_
                rintro e w4 ⟨rfl, hb4⟩
                have HO4 := Aside0.mk (HO.out.below hb4)
                have HK4 := Aside0.mk (HK.out.below hb4 HK.out.lt)
                have HB4 := Aside0.mk (HB.out.trans (hb4.mono HB.out.size))
                clear hb4 HO HK HB HCALL

                have hcell := runes_cell HK4.out p hpl
                rw [hbv] at hcell
                have hcvt := conv_rune b hx

                have e1 : (b == 241) = false := beq_eq_false_iff_ne.2 (by omega)
                have e2 : (b == 242) = false := beq_eq_false_iff_ne.2 (by omega)
                have e3 : (b == 243) = false := beq_eq_false_iff_ne.2 (by omega)
                have e4 : (b == 244) = false := beq_eq_false_iff_ne.2 (by omega)
                have e9 : ((p : Int) + 1 != 0) = true := bne_iff_ne.2 (by omega)
                clear hbv
                have e5 : decide (b - 32 < 0) = true := decide_eq_true (by omega)

                go_wp2_with fail
                try go_quiet (fail)
                try go_wp2_with fail
                refine (patAt _ v HV.out).mono ?_
                rintro e w5 ⟨A, g, rfl, hcl, hbk, hg, hb5⟩
                have hb5' : Below w4.heap.size w4 w5 := by first | exact hb5 | exact (pw_below_drewN (Below.refl _ _) _).trans hb5
                obtain ⟨hs, hown, htk⟩ := HO4.out.below hb5'
                have hhl : hs.length ≤ 200 := by rw [htk.1, HL.out]; omega
                have HOW := Aside0.mk hown
                have HTK := Aside0.mk htk
                have HBK := Aside0.mk hbk
                have HK5 := Aside0.mk (HK4.out.below hb5' HK4.out.lt)
                have HB5 := Aside0.mk (HB4.out.trans (hb5'.mono HB4.out.size))
                have HG := Aside0.mk (show w.heap.size ≤ g from Nat.le_trans HB4.out.size (by first | exact hg | exact Nat.le_trans (pw_below_drewN (Below.refl _ w4) _).size hg))
                obtain ⟨pl, hpl2⟩ : ∃ pl, (pat128 v).length = pl := ⟨_, rfl⟩
                rw [hpl2] at hcl
                have HPL := Aside0.mk hpl2
                clear hown htk hbk hb5 hb5' HO4 HK4 HB4 hg hpl2
                go_wp2_with (((with_reducible refine gate_builtin (b := .append) (xs := #[.tmp 228, .tmp 233]) rfl ?_); at_builtin; refine print_append (w0 := w) w.heap.size rfl (.tmp 228) (.tmp 233) 188 40 (.slice none 0 0) 24 rfl Tryz.underlying188 F.info40 rfl (by decide) _ hs _ rfl rfl rfl HOW.out HB5.out HB5.out.size ?aL ?_; (case aL => omega); intro v1 w6 ho6 hb6 hg6 hat; have HO6 := Aside0.mk (rows_snoc (b0 := 0) (n := 0) v g HOW.out HTK.out HBK.out HG.out hg6 (by rw [HPL.out]; exact ho6)); have HK6 := Aside0.mk (runes_grown HOW.out HK5.out hg6); have HB6 := Aside0.mk hb6; clear ho6 hb6 hg6 hat))
                go_roundw
                case rel => exact ⟨i + 1, p + 1, 101, acc ++ [v], HMN, ⟨by simp [HL.out]⟩, by omega, by go_num, by rfl, by rw [HSUM.out], by rw [HWN.out], HO6, HB6, HK6⟩
                case measure =>
                  show mu128 xs X k ((p : Int) + 1).toNat 101 < mu128 xs X k (p : Int).toNat 101
                  exact mu_take _ _ _ _ _ _ (by omega) (by omega)
              · have hval : val128 xs p 101 = rd xs p - 32 := by unfold val128; rw [if_pos rfl, if_neg hl]
                have hmn := mach_take xs X i p 101 acc HM.out hpl HCV.out
                rw [hval, if_neg (by decide)] at hmn
                have hi1 : 1 ≤ i := by have := HSORT.out.2; omega
                obtain ⟨b, hbv⟩ : ∃ b, rd xs p = b := ⟨_, rfl⟩
                rw [hbv] at hmn hb hx hl
                obtain ⟨v, hv⟩ : ∃ v, b - 32 = v := ⟨_, rfl⟩

                rw [hv] at hmn
                have HMN := Aside0.mk hmn
                clear hmn hval

                have hstep := sum_step xs X HXX.out HR.out hxl0 hxl1 i p _ acc v HM.out HL.out hpl (by rw [HMN.out])
                obtain ⟨hi122, hv0, hv1, hsum⟩ := hstep
                rw [HSS.out, HWW.out] at hsum
                have hsb := HSB.out (by omega)
                have hwr : 1 ≤ wt ∧ wt ≤ 122 := by rw [← HWW.out]; unfold wt128; split <;> omega
                obtain ⟨m, hmul⟩ : ∃ m, v * wt = m := ⟨_, rfl⟩
                have hm0 : 0 ≤ m := by first | omega | (rw [← hmul]; exact Int.mul_nonneg hv0 (by omega))
                have hm1 : m ≤ 12810 := by first | omega | (rw [← hmul]; exact mul_bound _ _ hv0 hv1 hwr.1 hwr.2)
                rw [hmul] at hsum
                have HSUM := Aside0.mk hsum
                have HWN := Aside0.mk (show wt + 1 = wt128 (i + 1) by
                  rw [← HWW.out]; unfold wt128
                  rw [if_neg (show ¬ i = 0 by omega), if_neg (by omega)]; omega)
                have HV := Aside0.mk (show (0 : Int) ≤ v ∧ v ≤ (106 : Int) from ⟨hv0, by omega⟩)
                clear hsum
                obtain ⟨hsb0, hsb1⟩ := hsb
                obtain ⟨hwr0, hwr1⟩ := hwr
                go_wp2_with fail
                refine (HCALL.out _ HK.out).mono ?_
                rintro e w4 ⟨rfl, hb4⟩
                have HO4 := Aside0.mk (HO.out.below hb4)
                have HK4 := Aside0.mk (HK.out.below hb4 HK.out.lt)
                have HB4 := Aside0.mk (HB.out.trans (hb4.mono HB.out.size))
                clear hb4 HO HK HB HCALL

                have hcell := runes_cell HK4.out p hpl
                rw [hbv] at hcell
                have hcvt := conv_rune b hx

                have e1 : (b == 241) = false := beq_eq_false_iff_ne.2 (by omega)
                have e2 : (b == 242) = false := beq_eq_false_iff_ne.2 (by omega)
                have e3 : (b == 243) = false := beq_eq_false_iff_ne.2 (by omega)
                have e4 : (b == 244) = false := beq_eq_false_iff_ne.2 (by omega)
                have e9 : ((p : Int) + 1 != 0) = true := bne_iff_ne.2 (by omega)
                clear hbv
                have e5 : decide (v < 0) = false := decide_eq_false (by omega)

                go_wp2_with fail
                try go_quiet (fail)
                try go_wp2_with fail
                refine (patAt _ v HV.out).mono ?_
                rintro e w5 ⟨A, g, rfl, hcl, hbk, hg, hb5⟩
                have hb5' : Below w4.heap.size w4 w5 := by first | exact hb5 | exact (pw_below_drewN (Below.refl _ _) _).trans hb5
                obtain ⟨hs, hown, htk⟩ := HO4.out.below hb5'
                have hhl : hs.length ≤ 200 := by rw [htk.1, HL.out]; omega
                have HOW := Aside0.mk hown
                have HTK := Aside0.mk htk
                have HBK := Aside0.mk hbk
                have HK5 := Aside0.mk (HK4.out.below hb5' HK4.out.lt)
                have HB5 := Aside0.mk (HB4.out.trans (hb5'.mono HB4.out.size))
                have HG := Aside0.mk (show w.heap.size ≤ g from Nat.le_trans HB4.out.size (by first | exact hg | exact Nat.le_trans (pw_below_drewN (Below.refl _ w4) _).size hg))
                obtain ⟨pl, hpl2⟩ : ∃ pl, (pat128 v).length = pl := ⟨_, rfl⟩
                rw [hpl2] at hcl
                have HPL := Aside0.mk hpl2
                clear hown htk hbk hb5 hb5' HO4 HK4 HB4 hg hpl2
                go_wp2_with (((with_reducible refine gate_builtin (b := .append) (xs := #[.tmp 228, .tmp 233]) rfl ?_); at_builtin; refine print_append (w0 := w) w.heap.size rfl (.tmp 228) (.tmp 233) 188 40 (.slice none 0 0) 24 rfl Tryz.underlying188 F.info40 rfl (by decide) _ hs _ rfl rfl rfl HOW.out HB5.out HB5.out.size ?aL ?_; (case aL => omega); intro v1 w6 ho6 hb6 hg6 hat; have HO6 := Aside0.mk (rows_snoc (b0 := 0) (n := 0) v g HOW.out HTK.out HBK.out HG.out hg6 (by rw [HPL.out]; exact ho6)); have HK6 := Aside0.mk (runes_grown HOW.out HK5.out hg6); have HB6 := Aside0.mk hb6; clear ho6 hb6 hg6 hat))
                go_roundw
                case rel => exact ⟨i + 1, p + 1, 101, acc ++ [v], HMN, ⟨by simp [HL.out]⟩, by omega, by go_num, by rfl, by rw [HSUM.out], by rw [HWN.out], HO6, HB6, HK6⟩
                case measure =>
                  show mu128 xs X k ((p : Int) + 1).toNat 101 < mu128 xs X k (p : Int).toNat 101
                  exact mu_take _ _ _ _ _ _ (by omega) (by omega)
          · by_cases h0 : s = 0
            · rcases hcc with ⟨rfl, ht⟩ | ⟨rfl, hb⟩ | ⟨rfl, hb⟩
              · have hmn := mach_turn xs X i p s 99 acc HM.out hpl HCV.out (by omega)
                have hi0 : i = 0 ∧ p = 0 ∧ s = 0 := by
                  rcases HSORT.out.2 with h | ⟨h, _⟩
                  · exact h
                  · omega
                obtain ⟨v, hv⟩ : ∃ v : Int, 105 = v := ⟨_, rfl⟩
                rw [if_pos h0, show start128 99 = v from hv] at hmn
                have HMN := Aside0.mk hmn
                have e6 : ((99 : Int) == s) = false := beq_eq_false_iff_ne.2 (by omega)
                have e7 : (s == 0) = true := beq_iff_eq.2 h0
                have e9 : ((p : Int) != 0) = false := bne_eq_false_iff_eq.2 (by omega)
                have HI0 := Aside0.mk hi0
                clear hmn h0 hi0

                have hstep := sum_step xs X HXX.out HR.out hxl0 hxl1 i p _ acc v HM.out HL.out hpl (by rw [HMN.out])
                obtain ⟨hi122, hv0, hv1, hsum⟩ := hstep
                rw [HSS.out, HWW.out] at hsum
                have hsb := HSB.out (by omega)
                have hwr : 1 ≤ wt ∧ wt ≤ 122 := by rw [← HWW.out]; unfold wt128; split <;> omega
                obtain ⟨m, hmul⟩ : ∃ m, v * wt = m := ⟨_, rfl⟩
                have hm0 : 0 ≤ m := by first | omega | (rw [← hmul]; exact Int.mul_nonneg hv0 (by omega))
                have hm1 : m ≤ 12810 := by first | omega | (rw [← hmul]; exact mul_bound _ _ hv0 hv1 hwr.1 hwr.2)
                rw [hmul] at hsum
                have HSUM := Aside0.mk hsum
                have HWN := Aside0.mk (show wt = wt128 (i + 1) by
                  rw [← HWW.out]; unfold wt128
                  rw [if_pos HI0.out.1, if_neg (by omega)]; have := HI0.out.1; omega)
                have HV := Aside0.mk (show (0 : Int) ≤ v ∧ v ≤ (106 : Int) from ⟨hv0, by omega⟩)
                clear hsum
                obtain ⟨hsb0, hsb1⟩ := hsb
                obtain ⟨hwr0, hwr1⟩ := hwr
                go_wp2_with fail
                refine (HCALL.out _ HK.out).mono ?_
                rintro e w4 ⟨rfl, hb4⟩
                have HO4 := Aside0.mk (HO.out.below hb4)
                have HK4 := Aside0.mk (HK.out.below hb4 HK.out.lt)
                have HB4 := Aside0.mk (HB.out.trans (hb4.mono HB.out.size))
                clear hb4 HO HK HB HCALL

                go_wp2_with fail
                try go_quiet (fail)
                try go_wp2_with fail
                refine (patAt _ v HV.out).mono ?_
                rintro e w5 ⟨A, g, rfl, hcl, hbk, hg, hb5⟩
                have hb5' : Below w4.heap.size w4 w5 := by first | exact hb5 | exact (pw_below_drewN (Below.refl _ _) _).trans hb5
                obtain ⟨hs, hown, htk⟩ := HO4.out.below hb5'
                have hhl : hs.length ≤ 200 := by rw [htk.1, HL.out]; omega
                have HOW := Aside0.mk hown
                have HTK := Aside0.mk htk
                have HBK := Aside0.mk hbk
                have HK5 := Aside0.mk (HK4.out.below hb5' HK4.out.lt)
                have HB5 := Aside0.mk (HB4.out.trans (hb5'.mono HB4.out.size))
                have HG := Aside0.mk (show w.heap.size ≤ g from Nat.le_trans HB4.out.size (by first | exact hg | exact Nat.le_trans (pw_below_drewN (Below.refl _ w4) _).size hg))
                obtain ⟨pl, hpl2⟩ : ∃ pl, (pat128 v).length = pl := ⟨_, rfl⟩
                rw [hpl2] at hcl
                rw [← hv, show (105 : Int).toNat = 105 from rfl] at hcl
                have hmul2 : 105 * wt = m := by rw [hv]; exact hmul
                clear hv
                have HPL := Aside0.mk hpl2
                clear hown htk hbk hb5 hb5' HO4 HK4 HB4 hg hpl2
                go_wp2_with (((with_reducible refine gate_builtin (b := .append) (xs := #[.tmp 228, .tmp 233]) rfl ?_); at_builtin; refine print_append (w0 := w) w.heap.size rfl (.tmp 228) (.tmp 233) 188 40 (.slice none 0 0) 24 rfl Tryz.underlying188 F.info40 rfl (by decide) _ hs _ rfl rfl rfl HOW.out HB5.out HB5.out.size ?aL ?_; (case aL => omega); intro v1 w6 ho6 hb6 hg6 hat; have HO6 := Aside0.mk (rows_snoc (b0 := 0) (n := 0) v g HOW.out HTK.out HBK.out HG.out hg6 (by rw [HPL.out]; exact ho6)); have HK6 := Aside0.mk (runes_grown HOW.out HK5.out hg6); have HB6 := Aside0.mk hb6; clear ho6 hb6 hg6 hat))
                go_roundw
                case rel => exact ⟨i + 1, p, 99, acc ++ [v], HMN, ⟨by simp [HL.out]⟩, by omega, by go_num, by rfl, by rw [HSUM.out], by rw [HWN.out], HO6, HB6, HK6⟩
                case measure =>
                  show mu128 xs X k (p : Int).toNat 99 < mu128 xs X k (p : Int).toNat s
                  rw [Int.toNat_natCast]
                  exact mu_turn _ _ HXX.out _ _ _ _ HCV.out (by omega)
              · have hmn := mach_turn xs X i p s 100 acc HM.out hpl HCV.out (by omega)
                have hi0 : i = 0 ∧ p = 0 ∧ s = 0 := by
                  rcases HSORT.out.2 with h | ⟨h, _⟩
                  · exact h
                  · omega
                obtain ⟨v, hv⟩ : ∃ v : Int, 104 = v := ⟨_, rfl⟩
                rw [if_pos h0, show start128 100 = v from hv] at hmn
                have HMN := Aside0.mk hmn
                have e6 : ((100 : Int) == s) = false := beq_eq_false_iff_ne.2 (by omega)
                have e7 : (s == 0) = true := beq_iff_eq.2 h0
                have e9 : ((p : Int) != 0) = false := bne_eq_false_iff_eq.2 (by omega)
                have HI0 := Aside0.mk hi0
                clear hmn h0 hi0

                have hstep := sum_step xs X HXX.out HR.out hxl0 hxl1 i p _ acc v HM.out HL.out hpl (by rw [HMN.out])
                obtain ⟨hi122, hv0, hv1, hsum⟩ := hstep
                rw [HSS.out, HWW.out] at hsum
                have hsb := HSB.out (by omega)
                have hwr : 1 ≤ wt ∧ wt ≤ 122 := by rw [← HWW.out]; unfold wt128; split <;> omega
                obtain ⟨m, hmul⟩ : ∃ m, v * wt = m := ⟨_, rfl⟩
                have hm0 : 0 ≤ m := by first | omega | (rw [← hmul]; exact Int.mul_nonneg hv0 (by omega))
                have hm1 : m ≤ 12810 := by first | omega | (rw [← hmul]; exact mul_bound _ _ hv0 hv1 hwr.1 hwr.2)
                rw [hmul] at hsum
                have HSUM := Aside0.mk hsum
                have HWN := Aside0.mk (show wt = wt128 (i + 1) by
                  rw [← HWW.out]; unfold wt128
                  rw [if_pos HI0.out.1, if_neg (by omega)]; have := HI0.out.1; omega)
                have HV := Aside0.mk (show (0 : Int) ≤ v ∧ v ≤ (106 : Int) from ⟨hv0, by omega⟩)
                clear hsum
                obtain ⟨hsb0, hsb1⟩ := hsb
                obtain ⟨hwr0, hwr1⟩ := hwr
                go_wp2_with fail
                refine (HCALL.out _ HK.out).mono ?_
                rintro e w4 ⟨rfl, hb4⟩
                have HO4 := Aside0.mk (HO.out.below hb4)
                have HK4 := Aside0.mk (HK.out.below hb4 HK.out.lt)
                have HB4 := Aside0.mk (HB.out.trans (hb4.mono HB.out.size))
                clear hb4 HO HK HB HCALL

                go_wp2_with fail
                try go_quiet (fail)
                try go_wp2_with fail
                refine (patAt _ v HV.out).mono ?_
                rintro e w5 ⟨A, g, rfl, hcl, hbk, hg, hb5⟩
                have hb5' : Below w4.heap.size w4 w5 := by first | exact hb5 | exact (pw_below_drewN (Below.refl _ _) _).trans hb5
                obtain ⟨hs, hown, htk⟩ := HO4.out.below hb5'
                have hhl : hs.length ≤ 200 := by rw [htk.1, HL.out]; omega
                have HOW := Aside0.mk hown
                have HTK := Aside0.mk htk
                have HBK := Aside0.mk hbk
                have HK5 := Aside0.mk (HK4.out.below hb5' HK4.out.lt)
                have HB5 := Aside0.mk (HB4.out.trans (hb5'.mono HB4.out.size))
                have HG := Aside0.mk (show w.heap.size ≤ g from Nat.le_trans HB4.out.size (by first | exact hg | exact Nat.le_trans (pw_below_drewN (Below.refl _ w4) _).size hg))
                obtain ⟨pl, hpl2⟩ : ∃ pl, (pat128 v).length = pl := ⟨_, rfl⟩
                rw [hpl2] at hcl
                rw [← hv, show (104 : Int).toNat = 104 from rfl] at hcl
                have hmul2 : 104 * wt = m := by rw [hv]; exact hmul
                clear hv
                have HPL := Aside0.mk hpl2
                clear hown htk hbk hb5 hb5' HO4 HK4 HB4 hg hpl2
                go_wp2_with (((with_reducible refine gate_builtin (b := .append) (xs := #[.tmp 228, .tmp 233]) rfl ?_); at_builtin; refine print_append (w0 := w) w.heap.size rfl (.tmp 228) (.tmp 233) 188 40 (.slice none 0 0) 24 rfl Tryz.underlying188 F.info40 rfl (by decide) _ hs _ rfl rfl rfl HOW.out HB5.out HB5.out.size ?aL ?_; (case aL => omega); intro v1 w6 ho6 hb6 hg6 hat; have HO6 := Aside0.mk (rows_snoc (b0 := 0) (n := 0) v g HOW.out HTK.out HBK.out HG.out hg6 (by rw [HPL.out]; exact ho6)); have HK6 := Aside0.mk (runes_grown HOW.out HK5.out hg6); have HB6 := Aside0.mk hb6; clear ho6 hb6 hg6 hat))
                go_roundw
                case rel => exact ⟨i + 1, p, 100, acc ++ [v], HMN, ⟨by simp [HL.out]⟩, by omega, by go_num, by rfl, by rw [HSUM.out], by rw [HWN.out], HO6, HB6, HK6⟩
                case measure =>
                  show mu128 xs X k (p : Int).toNat 100 < mu128 xs X k (p : Int).toNat s
                  rw [Int.toNat_natCast]
                  exact mu_turn _ _ HXX.out _ _ _ _ HCV.out (by omega)
              · have hmn := mach_turn xs X i p s 101 acc HM.out hpl HCV.out (by omega)
                have hi0 : i = 0 ∧ p = 0 ∧ s = 0 := by
                  rcases HSORT.out.2 with h | ⟨h, _⟩
                  · exact h
                  · omega
                obtain ⟨v, hv⟩ : ∃ v : Int, 103 = v := ⟨_, rfl⟩
                rw [if_pos h0, show start128 101 = v from hv] at hmn
                have HMN := Aside0.mk hmn
                have e6 : ((101 : Int) == s) = false := beq_eq_false_iff_ne.2 (by omega)
                have e7 : (s == 0) = true := beq_iff_eq.2 h0
                have e9 : ((p : Int) != 0) = false := bne_eq_false_iff_eq.2 (by omega)
                have HI0 := Aside0.mk hi0
                clear hmn h0 hi0

                have hstep := sum_step xs X HXX.out HR.out hxl0 hxl1 i p _ acc v HM.out HL.out hpl (by rw [HMN.out])
                obtain ⟨hi122, hv0, hv1, hsum⟩ := hstep
                rw [HSS.out, HWW.out] at hsum
                have hsb := HSB.out (by omega)
                have hwr : 1 ≤ wt ∧ wt ≤ 122 := by rw [← HWW.out]; unfold wt128; split <;> omega
                obtain ⟨m, hmul⟩ : ∃ m, v * wt = m := ⟨_, rfl⟩
                have hm0 : 0 ≤ m := by first | omega | (rw [← hmul]; exact Int.mul_nonneg hv0 (by omega))
                have hm1 : m ≤ 12810 := by first | omega | (rw [← hmul]; exact mul_bound _ _ hv0 hv1 hwr.1 hwr.2)
                rw [hmul] at hsum
                have HSUM := Aside0.mk hsum
                have HWN := Aside0.mk (show wt = wt128 (i + 1) by
                  rw [← HWW.out]; unfold wt128
                  rw [if_pos HI0.out.1, if_neg (by omega)]; have := HI0.out.1; omega)
                have HV := Aside0.mk (show (0 : Int) ≤ v ∧ v ≤ (106 : Int) from ⟨hv0, by omega⟩)
                clear hsum
                obtain ⟨hsb0, hsb1⟩ := hsb
                obtain ⟨hwr0, hwr1⟩ := hwr
                go_wp2_with fail
                refine (HCALL.out _ HK.out).mono ?_
                rintro e w4 ⟨rfl, hb4⟩
                have HO4 := Aside0.mk (HO.out.below hb4)
                have HK4 := Aside0.mk (HK.out.below hb4 HK.out.lt)
                have HB4 := Aside0.mk (HB.out.trans (hb4.mono HB.out.size))
                clear hb4 HO HK HB HCALL

                go_wp2_with fail
                try go_quiet (fail)
                try go_wp2_with fail
                refine (patAt _ v HV.out).mono ?_
                rintro e w5 ⟨A, g, rfl, hcl, hbk, hg, hb5⟩
                have hb5' : Below w4.heap.size w4 w5 := by first | exact hb5 | exact (pw_below_drewN (Below.refl _ _) _).trans hb5
                obtain ⟨hs, hown, htk⟩ := HO4.out.below hb5'
                have hhl : hs.length ≤ 200 := by rw [htk.1, HL.out]; omega
                have HOW := Aside0.mk hown
                have HTK := Aside0.mk htk
                have HBK := Aside0.mk hbk
                have HK5 := Aside0.mk (HK4.out.below hb5' HK4.out.lt)
                have HB5 := Aside0.mk (HB4.out.trans (hb5'.mono HB4.out.size))
                have HG := Aside0.mk (show w.heap.size ≤ g from Nat.le_trans HB4.out.size (by first | exact hg | exact Nat.le_trans (pw_below_drewN (Below.refl _ w4) _).size hg))
                obtain ⟨pl, hpl2⟩ : ∃ pl, (pat128 v).length = pl := ⟨_, rfl⟩
                rw [hpl2] at hcl
                rw [← hv, show (103 : Int).toNat = 103 from rfl] at hcl
                have hmul2 : 103 * wt = m := by rw [hv]; exact hmul
                clear hv
                have HPL := Aside0.mk hpl2
                clear hown htk hbk hb5 hb5' HO4 HK4 HB4 hg hpl2
                go_wp2_with (((with_reducible refine gate_builtin (b := .append) (xs := #[.tmp 228, .tmp 233]) rfl ?_); at_builtin; refine print_append (w0 := w) w.heap.size rfl (.tmp 228) (.tmp 233) 188 40 (.slice none 0 0) 24 rfl Tryz.underlying188 F.info40 rfl (by decide) _ hs _ rfl rfl rfl HOW.out HB5.out HB5.out.size ?aL ?_; (case aL => omega); intro v1 w6 ho6 hb6 hg6 hat; have HO6 := Aside0.mk (rows_snoc (b0 := 0) (n := 0) v g HOW.out HTK.out HBK.out HG.out hg6 (by rw [HPL.out]; exact ho6)); have HK6 := Aside0.mk (runes_grown HOW.out HK5.out hg6); have HB6 := Aside0.mk hb6; clear ho6 hb6 hg6 hat))
                go_roundw
                case rel => exact ⟨i + 1, p, 101, acc ++ [v], HMN, ⟨by simp [HL.out]⟩, by omega, by go_num, by rfl, by rw [HSUM.out], by rw [HWN.out], HO6, HB6, HK6⟩
                case measure =>
                  show mu128 xs X k (p : Int).toNat 101 < mu128 xs X k (p : Int).toNat s
                  rw [Int.toNat_natCast]
                  exact mu_turn _ _ HXX.out _ _ _ _ HCV.out (by omega)
            · have hmn := mach_turn xs X i p s cc acc HM.out hpl HCV.out hs
              have hi1 : 2 ≤ i ∧ 1 ≤ p := by
                rcases HSORT.out.2 with h | ⟨_, ⟨_, _, h⟩ | h⟩
                · exact absurd h.2.2 h0
                · exact absurd (HCV.out.symm.trans h) hs
                · exact h
              obtain ⟨hi1, hp1⟩ := hi1
              rw [if_neg h0] at hmn
              have HMN := Aside0.mk hmn
              have e6 : (cc == s) = false := beq_eq_false_iff_ne.2 hs
              have e7 : (s == 0) = false := beq_eq_false_iff_ne.2 h0
              have e9 : ((p : Int) != 0) = true := bne_iff_ne.2 (by omega)
              clear hmn

              have hstep := sum_step xs X HXX.out HR.out hxl0 hxl1 i p _ acc cc HM.out HL.out hpl (by rw [HMN.out])
              obtain ⟨hi122, hv0, hv1, hsum⟩ := hstep
              rw [HSS.out, HWW.out] at hsum
              have hsb := HSB.out (by omega)
              have hwr : 1 ≤ wt ∧ wt ≤ 122 := by rw [← HWW.out]; unfold wt128; split <;> omega
              obtain ⟨m, hmul⟩ : ∃ m, cc * wt = m := ⟨_, rfl⟩
              have hm0 : 0 ≤ m := by first | omega | (rw [← hmul]; exact Int.mul_nonneg hv0 (by omega))
              have hm1 : m ≤ 12810 := by first | omega | (rw [← hmul]; exact mul_bound _ _ hv0 hv1 hwr.1 hwr.2)
              rw [hmul] at hsum
              have HSUM := Aside0.mk hsum
              have HWN := Aside0.mk (show wt + 1 = wt128 (i + 1) by
                rw [← HWW.out]; unfold wt128
                rw [if_neg (show ¬ i = 0 by omega), if_neg (by omega)]; omega)
              have HV := Aside0.mk (show (0 : Int) ≤ cc ∧ cc ≤ (106 : Int) from ⟨hv0, by omega⟩)
              clear hsum
              obtain ⟨hsb0, hsb1⟩ := hsb
              obtain ⟨hwr0, hwr1⟩ := hwr
              go_wp2_with fail
              refine (HCALL.out _ HK.out).mono ?_
              rintro e w4 ⟨rfl, hb4⟩
              have HO4 := Aside0.mk (HO.out.below hb4)
              have HK4 := Aside0.mk (HK.out.below hb4 HK.out.lt)
              have HB4 := Aside0.mk (HB.out.trans (hb4.mono HB.out.size))
              clear hb4 HO HK HB HCALL

              go_wp2_with fail
              try go_quiet (fail)
              try go_wp2_with fail
              refine (patAt _ cc HV.out).mono ?_
              rintro e w5 ⟨A, g, rfl, hcl, hbk, hg, hb5⟩
              have hb5' : Below w4.heap.size w4 w5 := by first | exact hb5 | exact (pw_below_drewN (Below.refl _ _) _).trans hb5
              obtain ⟨hs, hown, htk⟩ := HO4.out.below hb5'
              have hhl : hs.length ≤ 200 := by rw [htk.1, HL.out]; omega
              have HOW := Aside0.mk hown
              have HTK := Aside0.mk htk
              have HBK := Aside0.mk hbk
              have HK5 := Aside0.mk (HK4.out.below hb5' HK4.out.lt)
              have HB5 := Aside0.mk (HB4.out.trans (hb5'.mono HB4.out.size))
              have HG := Aside0.mk (show w.heap.size ≤ g from Nat.le_trans HB4.out.size (by first | exact hg | exact Nat.le_trans (pw_below_drewN (Below.refl _ w4) _).size hg))
              obtain ⟨pl, hpl2⟩ : ∃ pl, (pat128 cc).length = pl := ⟨_, rfl⟩
              rw [hpl2] at hcl
              have HPL := Aside0.mk hpl2
              clear hown htk hbk hb5 hb5' HO4 HK4 HB4 hg hpl2
              go_wp2_with (((with_reducible refine gate_builtin (b := .append) (xs := #[.tmp 228, .tmp 233]) rfl ?_); at_builtin; refine print_append (w0 := w) w.heap.size rfl (.tmp 228) (.tmp 233) 188 40 (.slice none 0 0) 24 rfl Tryz.underlying188 F.info40 rfl (by decide) _ hs _ rfl rfl rfl HOW.out HB5.out HB5.out.size ?aL ?_; (case aL => omega); intro v1 w6 ho6 hb6 hg6 hat; have HO6 := Aside0.mk (rows_snoc (b0 := 0) (n := 0) cc g HOW.out HTK.out HBK.out HG.out hg6 (by rw [HPL.out]; exact ho6)); have HK6 := Aside0.mk (runes_grown HOW.out HK5.out hg6); have HB6 := Aside0.mk hb6; clear ho6 hb6 hg6 hat))
              go_roundw
              case rel => exact ⟨i + 1, p, cc, acc ++ [cc], HMN, ⟨by simp [HL.out]⟩, by omega, by go_num, by rfl, by rw [HSUM.out], by rw [HWN.out], HO6, HB6, HK6⟩
              case measure =>
                show mu128 xs X k (p : Int).toNat cc < mu128 xs X k (p : Int).toNat s
                rw [Int.toNat_natCast]
                exact mu_turn _ _ HXX.out _ _ _ _ HCV.out (by omega)
        · have hpe : p = k := by omega
          subst hpe
          clear hp
          have hxl0 : 0 < xs.length := by rw [HN.out]; omega
          have hxl1 : xs.length ≤ 60 := by rw [HN.out]; omega
          obtain ⟨hfull, hck⟩ := sum_end xs X HXX.out HR.out hxl0 i p s acc HM.out HL.out HN.out.symm
          have hsb := sum_bound xs X HXX.out HR.out hxl0 hxl1 i (by have := (full_facts xs X HXX.out HR.out hxl0).2.2.1; rw [← hfull, HL.out] at this; omega)
          have hff := full_facts xs X HXX.out HR.out hxl0
          obtain ⟨S, hS⟩ : ∃ S, sum128 xs X i = S := ⟨_, rfl⟩
          rw [hS] at hck hsb ⊢
          have HACC := Aside0.mk hfull
          rw [hfull] at HO
          obtain ⟨fs, hfs⟩ : ∃ fs, full128 xs X = fs := ⟨_, rfl⟩
          rw [hfs] at HO hck hff
          obtain ⟨_, hf2, hf3, hf4⟩ := hff
          have hckr := chk_rng fs
          obtain ⟨ck, hckv⟩ : ∃ ck, chk128 fs = ck := ⟨_, rfl⟩
          rw [hckv] at hck hckr
          have HFS := Aside0.mk hfs
          have HCK := Aside0.mk hckv
          have hrem : Int.tmod S 103 = ck := by rw [Int.tmod_eq_emod_of_nonneg hsb.1]; exact hck
          have hfl : fs.length ≤ 122 := by omega
          have HF4 := Aside0.mk hf4
          obtain ⟨hck0, hck1⟩ := hckr
          obtain ⟨hsb0, hsb1⟩ := hsb
          obtain ⟨gs, hgs⟩ : ∃ gs, fs ++ [ck] ++ [106] = gs := ⟨_, rfl⟩
          have HGS := Aside0.mk hgs
          have hgl : gs.length = fs.length + 2 := by rw [← hgs]; simp
          have hgr : ∀ v ∈ gs, 0 ≤ v ∧ v ≤ 106 := by
            rw [← hgs]
            intro v hv
            rcases List.mem_append.1 hv with hv | hv
            · rcases List.mem_append.1 hv with hv | hv
              · have := HF4.out v hv; omega
              · obtain rfl := List.mem_singleton.1 hv; omega
            · obtain rfl := List.mem_singleton.1 hv; omega
          have hcl128 : ((code128 gs).length : Int) = 11 * (fs.length : Int) + 24 := by
            rw [← hgs, code128_append, code128_append, code128_one, code128_one, List.length_append, List.length_append, code128_len fs HF4.out, mods_106, mods_len ck (by omega)]
            omega
          have hgrd : ∀ i : Nat, i < gs.length → 0 ≤ rd gs i ∧ rd gs i ≤ 106 := by
            intro i hi
            have : rd gs (i : Int) = gs[i] := by unfold rd; rw [Int.toNat_natCast, List.getD_eq_getElem?_getD, List.getElem?_eq_getElem hi]; rfl
            rw [this]; exact hgr _ (List.getElem_mem hi)
          obtain ⟨m, hm⟩ : ∃ m, gs.length = m := ⟨_, rfl⟩
          rw [hm] at hgl hgrd
          obtain ⟨L, hL⟩ : ∃ L, (code128 gs).length = L := ⟨_, rfl⟩
          have hL1 : 35 ≤ L := by omega
          have hL2 : L ≤ 2000 := by omega
          have HGM := Aside0.mk hm
          have HGR := Aside0.mk hgrd
          have HLL := Aside0.mk hL
          have hm2 : 2 ≤ m := by omega
          have hm3 : m ≤ 200 := by omega
          clear hgs hgl hgr hcl128 hgrd hm hL
          clear hck hfull hS hfs hckv hf3 hf4 HM HL HXX HXE HR HRD
          go_wp2_with fail
          refine (patAt _ ck ⟨hck0, by omega⟩).mono ?_

          rintro e w5 ⟨A, g, rfl, hcl, hbk, hg, hb5⟩
          obtain ⟨hs, hown, htk⟩ := HO.out.below hb5
          have hhl : hs.length ≤ 200 := by rw [htk.1]; omega
          have HOW := Aside0.mk hown
          have HTK := Aside0.mk htk
          have HBK := Aside0.mk hbk
          have HB5 := Aside0.mk (HB.out.trans (hb5.mono HB.out.size))
          have HG := Aside0.mk (show w.heap.size ≤ g from Nat.le_trans HB.out.size hg)
          obtain ⟨pl, hpl2⟩ : ∃ pl, (pat128 ck).length = pl := ⟨_, rfl⟩
          rw [hpl2] at hcl
          have HPL := Aside0.mk hpl2
          clear hown htk hbk hb5 HO HB hg hpl2
          go_wp2_with (((with_reducible refine gate_builtin (b := .append) (xs := #[.tmp 246, .tmp 251]) rfl ?_); at_builtin; refine print_append (w0 := w) w.heap.size rfl (.tmp 246) (.tmp 251) 188 40 (.slice none 0 0) 24 rfl Tryz.underlying188 F.info40 rfl (by decide) _ hs _ rfl rfl rfl HOW.out HB5.out HB5.out.size ?aL ?_; (case aL => omega); intro v1 w6 ho6 hb6 hg6 hat; have HO6 := Aside0.mk (rows_snoc (b0 := 0) (n := 0) ck g HOW.out HTK.out HBK.out HG.out hg6 (by rw [HPL.out]; exact ho6)); have HB6 := Aside0.mk hb6; clear ho6 hb6 hg6 hat))

          refine (patAt _ 106 (by omega)).mono ?_
          clear hcl HOW HTK HBK HG HPL HB5
          have HO := HO6
          have HB := HB6
          clear HO6 HB6 hhl

          rintro e w5 ⟨A, g, rfl, hcl, hbk, hg, hb5⟩
          obtain ⟨hs, hown, htk⟩ := HO.out.below hb5
          have hhl : hs.length ≤ 200 := by rw [htk.1]; (rw [List.length_append]; simp; omega)
          have HOW := Aside0.mk hown
          have HTK := Aside0.mk htk
          have HBK := Aside0.mk hbk
          have HB5 := Aside0.mk (HB.out.trans (hb5.mono HB.out.size))
          have HG := Aside0.mk (show w.heap.size ≤ g from Nat.le_trans HB.out.size hg)
          obtain ⟨pl, hpl2⟩ : ∃ pl, (pat128 106).length = pl := ⟨_, rfl⟩
          rw [hpl2, show (106 : Int).toNat = 106 from rfl] at hcl
          have HPL := Aside0.mk hpl2
          clear hown htk hbk hb5 HO HB hg hpl2
          go_wp2_with (((with_reducible refine gate_builtin (b := .append) (xs := #[.tmp 253, .tmp 257]) rfl ?_); at_builtin; refine print_append (w0 := w) w.heap.size rfl (.tmp 253) (.tmp 257) 188 40 (.slice none 0 0) 24 rfl Tryz.underlying188 F.info40 rfl (by decide) _ hs _ rfl rfl rfl HOW.out HB5.out HB5.out.size ?aL ?_; (case aL => omega); intro v1 w6 ho6 hb6 hg6 hat; have HO6 := Aside0.mk (rows_snoc (b0 := 0) (n := 0) 106 g HOW.out HTK.out HBK.out HG.out hg6 (by rw [HPL.out]; exact ho6)); have HB6 := Aside0.mk hb6; have hq := HO6.out; rw [HGS.out] at hq; obtain ⟨b, cap, e, hcap, hbb, hlaid⟩ := hq.laid (by rw [HGM.out]; omega); rw [HGM.out] at e hcap; subst e; have HLAID := Aside0.mk hlaid; clear HO6 hq hlaid ho6 hb6 hg6 hat))
          clear hcl HOW HTK HBK HG HPL HB5 hhl HF4 HK

          go_loopw [261, 23] (fun v tv wi => ∃ q : Nat, q ≤ m ∧ v = .int .i64 q ∧ tv = .int .i64 ((code128 (gs.take q)).length : Nat) ∧ w6 = wi) (fun v _ _ => m - (intOf v).toNat)
          case atStart => exact ⟨0, by omega, rfl, rfl, rfl⟩
          case round =>
            obtain ⟨q, hq, rfl, rfl, rfl⟩ := hrel
            have hTL := code_pre gs q
            rw [HLL.out] at hTL
            by_cases hlt : q < m
            · obtain ⟨g, hc1, hk1⟩ := HLAID.out.get q (by rw [HGM.out]; exact hlt)
              have hrr := HGR.out q hlt
              have hct := code_take gs q (by rw [HGM.out]; exact hlt)
              obtain ⟨x, hx⟩ : ∃ x, rd gs q = x := ⟨_, rfl⟩
              rw [hx] at hc1 hk1 hrr hct
              have hpr := pat_rng x hrr
              have hps := bars_sum true (pat128 x) hpr
              have hpl7 : (pat128 x).length ≤ 7 := by
                rcases Int.lt_or_le x 106 with h | h
                · rw [pat_len x (by omega)]; omega
                · rw [show x = 106 by omega, pat_106]; omega
              have HCT := Aside0.mk (show ((code128 (gs.take (q + 1))).length : Int) = ((code128 (gs.take q)).length : Int) + (pat128 x).sum by rw [hct, List.length_append, ← hps]; rfl)
              obtain ⟨ps, hpv⟩ : ∃ ps, pat128 x = ps := ⟨_, rfl⟩
              rw [hpv] at hc1 hk1 hpr hpl7 HCT
              obtain ⟨pl, hplv⟩ : ∃ pl, ps.length = pl := ⟨_, rfl⟩
              rw [hplv] at hc1 hpl7
              obtain ⟨T, hT⟩ : ∃ T, (code128 (gs.take q)).length = T := ⟨_, rfl⟩
              rw [hT] at HCT hTL ⊢
              have HPR := Aside0.mk hpr
              have HPLV := Aside0.mk hplv
              have HK1 := Aside0.mk hk1
              clear hx hct hpr hps hpv hplv hT hk1 hrr
              go_wp2_with fail
              go_loopw [267, 23] (fun v tv wi => ∃ j : Nat, j ≤ pl ∧ v = .int .i64 j ∧ tv = .int .i64 ((T : Int) + (ps.take j).sum) ∧ w6 = wi) (fun v _ _ => pl - (intOf v).toNat)
              case atStart => exact ⟨0, by omega, rfl, by simp, rfl⟩
              case round =>
                obtain ⟨j, hj, rfl, rfl, rfl⟩ := hrel
                have hsb := sum_small ps HPR.out j
                by_cases hjl : j < pl
                · have hst := sum_take ps j (by rw [HPLV.out]; exact hjl)
                  have hc2 := HK1.out.ucell (j : Int) (by omega) (by rw [HPLV.out]; omega)
                  rw [Int.toNat_natCast] at hc2
                  have hu4 := rd_small ps HPR.out j (by rw [HPLV.out]; exact hjl)
                  obtain ⟨u, hu⟩ : ∃ u, rd ps j = u := ⟨_, rfl⟩
                  obtain ⟨s0, hs0⟩ : ∃ s0, (ps.take j).sum = s0 := ⟨_, rfl⟩
                  rw [hu] at hst hc2 hu4
                  rw [hs0] at hst hsb ⊢
                  have HST := Aside0.mk hst
                  clear hu hs0 hst
                  obtain ⟨hu40, hu41⟩ := hu4
                  obtain ⟨hsb0, hsb1⟩ := hsb
                  go_wp2_with fail
                  go_roundw
                  case rel => exact ⟨j + 1, by omega, by go_num, by rw [HST.out]; go_num, trivial⟩
                  case measure => simp [intOf]; omega
                · have hjp : j = pl := by omega
                  subst hjp
                  have HSE := Aside0.mk (show ps.take j = ps from List.take_of_length_le (by rw [HPLV.out]; exact Nat.le_refl _))
                  rw [HSE.out]
                  clear hsb hj hjl
                  go_wp2_with fail
                  go_roundw
                  case rel => exact ⟨q + 1, by omega, by go_num, by rw [HCT.out], trivial⟩
                  case measure => simp [intOf]; omega
            · have hqm : q = m := by omega
              subst hqm
              have HTE := Aside0.mk (show gs.take q = gs from List.take_of_length_le (by rw [HGM.out]; exact Nat.le_refl _))
              rw [HTE.out, HLL.out]
              have hmkb := make_bool L (by omega)
              clear hTL hq hlt
              go_wp2_with fail
              obtain ⟨gt, hgt⟩ : ∃ gt, w6.heap.size = gt := ⟨_, rfl⟩
              obtain ⟨w7, hw7⟩ : ∃ w7, w6.alloc (.cells (bools (List.replicate L false)).toArray 4) = w7 := ⟨_, rfl⟩
              have hbk : Blk w7 gt 4 (bools (put (List.replicate L false) [])).toArray := by rw [← hw7, ← hgt, put_nil]; exact Blk.new _ _ _
              have hb7 := below_alloc (Below.refl w6.heap.size w6) (.cells (bools (List.replicate L false)).toArray 4)
              rw [hw7] at hb7
              have hge : w.heap.size ≤ gt := by rw [← hgt]; exact HB6.out.size
              have HX7 := Aside0.mk hbk
              have HLA7 := Aside0.mk (HLAID.out.below hb7)
              have HB7 := Aside0.mk (HB6.out.trans (hb7.mono HB6.out.size))
              simp only [hw7, hgt]
              clear hbk hb7 hw7 hgt HLAID HB6 hmkb
              go_loopw [280, 29] (fun v pv wi => ∃ y : Nat, y ≤ q ∧ v = .int .i64 y ∧ pv = .int .i64 ((code128 (gs.take y)).length : Nat) ∧ Aside0 (Laid wi b gs) ∧ Aside0 (Blk wi gt 4 (bools (put (List.replicate L false) (code128 (gs.take y)))).toArray) ∧ Aside0 (Below w.heap.size w wi)) (fun v _ _ => q - (intOf v).toNat)
              case atStart => exact ⟨0, by omega, rfl, rfl, HLA7, HX7, HB7⟩
              case round =>
                obtain ⟨y, hy, rfl, rfl, HLA, HX, HB⟩ := hrel
                clear HLA7 HX7 HB7
                by_cases hlt : y < q
                · have hyl : y < gs.length := by rw [HGM.out]; exact hlt
                  obtain ⟨g, hc1, hk1⟩ := HLA.out.get y hyl
                  have hrr := HGR.out y hlt
                  have hct := code_take gs y hyl
                  have hTL := code_pre gs (y + 1)
                  rw [HLL.out] at hTL
                  obtain ⟨x, hx⟩ : ∃ x, rd gs y = x := ⟨_, rfl⟩
                  rw [hx] at hc1 hk1 hrr hct
                  have hpr := pat_rng x hrr
                  have hml : (bars true (pat128 x)).length ≤ 13 := by
                    show (mods x).length ≤ 13
                    rcases Int.lt_or_le x 106 with h | h
                    · rw [mods_len x (by omega)]; omega
                    · rw [show x = 106 by omega, mods_106]; omega
                  have hpl7 : (pat128 x).length ≤ 7 := by
                    rcases Int.lt_or_le x 106 with h | h
                    · rw [pat_len x (by omega)]; omega
                    · rw [show x = 106 by omega, pat_106]; omega
                  have hct2 : code128 (gs.take (y + 1)) = code128 (gs.take y) ++ bars true (pat128 x) := hct
                  obtain ⟨ps, hpv⟩ : ∃ ps, pat128 x = ps := ⟨_, rfl⟩
                  rw [hpv] at hc1 hk1 hpr hpl7 hct2 hml
                  rw [hct2, List.length_append] at hTL
                  obtain ⟨pl, hplv⟩ : ∃ pl, ps.length = pl := ⟨_, rfl⟩
                  have hC := blk_C hk1 (by omega)
                  rw [hplv] at hc1 hpl7 hC
                  obtain ⟨ML, hML⟩ : ∃ ML, (bars true ps).length = ML := ⟨_, rfl⟩
                  obtain ⟨T, hT⟩ : ∃ T, (code128 (gs.take y)).length = T := ⟨_, rfl⟩
                  rw [hT, hML] at hTL
                  rw [hML] at hml
                  rw [hT]
                  have HCT := Aside0.mk hct2
                  have HCL := Aside0.mk (show (code128 (gs.take (y + 1))).length = T + ML by rw [hct2, List.length_append, hT, hML])
                  have HPR := Aside0.mk (show ∀ p ∈ ps, 0 ≤ p ∧ p ≤ 1000 from fun p hp => by have := hpr p hp; omega)
                  have HPLV := Aside0.mk hplv
                  have HML := Aside0.mk hML
                  have HTT := Aside0.mk hT
                  have HCC := Aside0.mk hC
                  clear hx hct hct2 hpr hpv hplv hT hk1 hrr hML hC hyl
                  go_wp2_with fail
                  refine (appendPat' _ gt L (List.replicate L false) (code128 (gs.take y)) (some ⟨g, 0, none⟩) pl ps true (T : Int) (ML : Int) (by rw [HTT.out]) (by rw [HML.out]) HX.out (by simp) (by omega) (by omega) pl HPLV.out HCC.out (Nat.le_refl _) HPR.out (by omega) (by omega)).mono ?_
                  rintro e w8 ⟨rfl, hx, hu⟩
                  have HX8 := Aside0.mk hx
                  have HLA8 := Aside0.mk (HLA.out.upd HX.out hu)
                  have HB8 := Aside0.mk (HB.out.trans (hu.below hge HB.out.size))
                  clear hx hu HX HLA HB hc1
                  go_wp2
                  go_roundw
                  case rel => exact ⟨y + 1, by omega, by go_num, by rw [HCL.out]; go_num, HLA8, ⟨by rw [HCT.out]; exact HX8.out⟩, HB8⟩
                  case measure => simp [intOf]; omega
                · have hym : y = q := by omega
                  subst hym
                  rw [HTE.out] at HX
                  clear hy hlt
                  go_wp2
                  go_ret2
                  refine ⟨_, rfl, ?_, HB.out⟩
                  rw [HFS.out, HCK.out, HGS.out]
                  have hx' := HX.out
                  rw [put_all _ _ (by rw [HLL.out]; simp)] at hx'
                  exact Kd.R_mono (R_of_blk hx' HLL.out (by omega) hge) (fun _ _ => trivial)
end Go.Proofs.YthkddnmomjcdaaaGreat.B
namespace Go.Proofs.YthkddnmomjcdaaaGreat.F
open Go.RowKit Go.Proofs.YthkddnmomjcdaaaGreatW.PrintWords Go.Proofs.YthkddnmomjcdaaaGreatW.PrintLast Go.Proofs.YthkddnmomjcdaaaGreatW.PrintMore
attribute [local go_sem] max2_int min2_int max_two min_two max_three min_three max_four min_four   -- for this text's walks alone
set_option linter.unusedVariables false
set_option linter.unusedSimpArgs false

/-! ### spec_OD128Text: function 27 -/
mutual
def spec_OD128Text.l0 : Nat → List Int → Int → ByteArray → Bool → Int → Option (ByteArray × Bool)
  | 0, _, _, _, _, _ => none
  | k + 1, x0, x4, x5, x6, x7 => if x7 < (x0.length : Int) then (if 0 ≤ x7 then (if x6 = true then (spec_OD128Text.j1 k x0 x4 x5 x6 x7 (rd x0 x7) (wrap64 (207 - x4))) else (spec_OD128Text.j1 k x0 x4 x5 x6 x7 (rd x0 x7) x4)) else (none)) else (some (x5, !x6))
def spec_OD128Text.j1 : Nat → List Int → Int → ByteArray → Bool → Int → Int → Int → Option (ByteArray × Bool)
  | 0, _, _, _, _, _, _, _ => none
  | k + 1, x0, x4, x5, x6, x7, x8, x9 => if x4 = 105 then (spec_OD128Text.j2 k x0 x4 x5 false x7 x8 x9 x6 (decide (x8 < 100))) else (spec_OD128Text.j2 k x0 x4 x5 false x7 x8 x9 x6 false)
def spec_OD128Text.j2 : Nat → List Int → Int → ByteArray → Bool → Int → Int → Int → Bool → Bool → Option (ByteArray × Bool)
  | 0, _, _, _, _, _, _, _, _, _ => none
  | k + 1, x0, x4, x5, x6, x7, x8, x9, x10, x30 => if x30 = true then ((some (([(wrap64 (48 + (wrap64 (Int.tdiv x8 10)))) % 256, (wrap64 (48 + (Int.tmod x8 10))) % 256] : List Int) : List Int)).bind fun y349 => (if x5.size + (strOfNums y349).size ≤ 9223372036854775807 then (spec_OD128Text.l0 k x0 x4 (x5 ++ (strOfNums y349)) x6 (wrap64 (x7 + 1))) else (none))) else (if x4 = 105 then (spec_OD128Text.j3 k x0 x4 x5 x6 x7 x8 x9 x10 false) else (spec_OD128Text.j3 k x0 x4 x5 x6 x7 x8 x9 x10 (decide (x8 < 96))))
def spec_OD128Text.j3 : Nat → List Int → Int → ByteArray → Bool → Int → Int → Int → Bool → Bool → Option (ByteArray × Bool)
  | 0, _, _, _, _, _, _, _, _, _ => none
  | k + 1, x0, x4, x5, x6, x7, x8, x9, x10, x49 => if x49 = true then (if x9 = 103 then (if x8 ≥ 64 then ((some (([(wrap64 (x8 - 64)) % 256] : List Int) : List Int)).bind fun y352 => (if x5.size + (strOfNums y352).size ≤ 9223372036854775807 then (spec_OD128Text.l0 k x0 x4 (x5 ++ (strOfNums y352)) x6 (wrap64 (x7 + 1))) else (none))) else ((some (([(wrap64 (x8 + 32)) % 256] : List Int) : List Int)).bind fun y355 => (if x5.size + (strOfNums y355).size ≤ 9223372036854775807 then (spec_OD128Text.l0 k x0 x4 (x5 ++ (strOfNums y355)) x6 (wrap64 (x7 + 1))) else (none)))) else ((some (([(wrap64 (x8 + 32)) % 256] : List Int) : List Int)).bind fun y358 => (if x5.size + (strOfNums y358).size ≤ 9223372036854775807 then (spec_OD128Text.l0 k x0 x4 (x5 ++ (strOfNums y358)) x6 (wrap64 (x7 + 1))) else (none)))) else (if x10 = true then (some ((⟨#[]⟩ : ByteArray), false)) else (if x4 = 105 then (spec_OD128Text.j4 k x0 x4 x5 x6 x7 x8 false) else (spec_OD128Text.j4 k x0 x4 x5 x6 x7 x8 (x8 == 98))))
def spec_OD128Text.j4 : Nat → List Int → Int → ByteArray → Bool → Int → Int → Bool → Option (ByteArray × Bool)
  | 0, _, _, _, _, _, _, _ => none
  | k + 1, x0, x4, x5, x6, x7, x8, x74 => if x74 = true then (spec_OD128Text.l0 k x0 x4 x5 true (wrap64 (x7 + 1))) else (if x8 = 99 then (spec_OD128Text.j5 k x0 x4 x5 x6 x7 x8 (x4 != 105)) else (spec_OD128Text.j5 k x0 x4 x5 x6 x7 x8 false))
def spec_OD128Text.j5 : Nat → List Int → Int → ByteArray → Bool → Int → Int → Bool → Option (ByteArray × Bool)
  | 0, _, _, _, _, _, _, _ => none
  | k + 1, x0, x4, x5, x6, x7, x8, x81 => if x81 = true then (spec_OD128Text.l0 k x0 105 x5 x6 (wrap64 (x7 + 1))) else (if x8 = 100 then (spec_OD128Text.j6 k x0 x4 x5 x6 x7 x8 (x4 != 104)) else (spec_OD128Text.j6 k x0 x4 x5 x6 x7 x8 false))
def spec_OD128Text.j6 : Nat → List Int → Int → ByteArray → Bool → Int → Int → Bool → Option (ByteArray × Bool)
  | 0, _, _, _, _, _, _, _ => none
  | k + 1, x0, x4, x5, x6, x7, x8, x88 => if x88 = true then (spec_OD128Text.l0 k x0 104 x5 x6 (wrap64 (x7 + 1))) else (if x8 = 101 then (if x4 = 103 then (some ((⟨#[]⟩ : ByteArray), false)) else (spec_OD128Text.l0 k x0 103 x5 x6 (wrap64 (x7 + 1)))) else (some ((⟨#[]⟩ : ByteArray), false)))
end
def spec_OD128Text.f (k : Nat) (l0 : List Int) : Option (ByteArray × Bool) := if 0 < (l0.length : Int) then (spec_OD128Text.l0 k l0 (rd l0 0) (⟨#[]⟩ : ByteArray) false 1) else (none)
theorem spec_OD128Text.mono_l : ∀ k, (∀ y0 y1 y2 y3 y4, LeO (spec_OD128Text.l0 k y0 y1 y2 y3 y4) (spec_OD128Text.l0 (k + 1) y0 y1 y2 y3 y4)) ∧ (∀ y0 y1 y2 y3 y4 y5 y6, LeO (spec_OD128Text.j1 k y0 y1 y2 y3 y4 y5 y6) (spec_OD128Text.j1 (k + 1) y0 y1 y2 y3 y4 y5 y6)) ∧ (∀ y0 y1 y2 y3 y4 y5 y6 y7 y8, LeO (spec_OD128Text.j2 k y0 y1 y2 y3 y4 y5 y6 y7 y8) (spec_OD128Text.j2 (k + 1) y0 y1 y2 y3 y4 y5 y6 y7 y8)) ∧ (∀ y0 y1 y2 y3 y4 y5 y6 y7 y8, LeO (spec_OD128Text.j3 k y0 y1 y2 y3 y4 y5 y6 y7 y8) (spec_OD128Text.j3 (k + 1) y0 y1 y2 y3 y4 y5 y6 y7 y8)) ∧ (∀ y0 y1 y2 y3 y4 y5 y6, LeO (spec_OD128Text.j4 k y0 y1 y2 y3 y4 y5 y6) (spec_OD128Text.j4 (k + 1) y0 y1 y2 y3 y4 y5 y6)) ∧ (∀ y0 y1 y2 y3 y4 y5 y6, LeO (spec_OD128Text.j5 k y0 y1 y2 y3 y4 y5 y6) (spec_OD128Text.j5 (k + 1) y0 y1 y2 y3 y4 y5 y6)) ∧ (∀ y0 y1 y2 y3 y4 y5 y6, LeO (spec_OD128Text.j6 k y0 y1 y2 y3 y4 y5 y6) (spec_OD128Text.j6 (k + 1) y0 y1 y2 y3 y4 y5 y6))
  | 0 => ⟨fun _ _ _ _ _ r h => by simp [spec_OD128Text.l0] at h, fun _ _ _ _ _ _ _ r h => by simp [spec_OD128Text.j1] at h, fun _ _ _ _ _ _ _ _ _ r h => by simp [spec_OD128Text.j2] at h, fun _ _ _ _ _ _ _ _ _ r h => by simp [spec_OD128Text.j3] at h, fun _ _ _ _ _ _ _ r h => by simp [spec_OD128Text.j4] at h, fun _ _ _ _ _ _ _ r h => by simp [spec_OD128Text.j5] at h, fun _ _ _ _ _ _ _ r h => by simp [spec_OD128Text.j6] at h⟩
  | k + 1 => by
    obtain ⟨ih0, ih1, ih2, ih3, ih4, ih5, ih6⟩ := spec_OD128Text.mono_l k
    refine ⟨?_, ?_, ?_, ?_, ?_, ?_, ?_⟩
    · intro y0 y1 y2 y3 y4
      unfold spec_OD128Text.l0
      repeat' first
      | (with_reducible exact ih0 _ _ _ _ _)
      | (with_reducible exact ih1 _ _ _ _ _ _ _)
      | (with_reducible exact ih2 _ _ _ _ _ _ _ _ _)
      | (with_reducible exact ih3 _ _ _ _ _ _ _ _ _)
      | (with_reducible exact ih4 _ _ _ _ _ _ _)
      | (with_reducible exact ih5 _ _ _ _ _ _ _)
      | (with_reducible exact ih6 _ _ _ _ _ _ _)
      | (with_reducible exact LeO.refl _)
      | (with_reducible exact LeO.none _)
      | (with_reducible refine LeO.ite ?_ ?_)
      | (with_reducible refine LeO.bind ?_ (fun _ => ?_))
      | exact ih0 _ _ _ _ _
      | exact ih1 _ _ _ _ _ _ _
      | exact ih2 _ _ _ _ _ _ _ _ _
      | exact ih3 _ _ _ _ _ _ _ _ _
      | exact ih4 _ _ _ _ _ _ _
      | exact ih5 _ _ _ _ _ _ _
      | exact ih6 _ _ _ _ _ _ _
      | exact LeO.none _
      | refine LeO.ite ?_ ?_
      | refine LeO.bind ?_ (fun _ => ?_)
    · intro y0 y1 y2 y3 y4 y5 y6
      unfold spec_OD128Text.j1
      repeat' first
      | (with_reducible exact ih0 _ _ _ _ _)
      | (with_reducible exact ih1 _ _ _ _ _ _ _)
      | (with_reducible exact ih2 _ _ _ _ _ _ _ _ _)
      | (with_reducible exact ih3 _ _ _ _ _ _ _ _ _)
      | (with_reducible exact ih4 _ _ _ _ _ _ _)
      | (with_reducible exact ih5 _ _ _ _ _ _ _)
      | (with_reducible exact ih6 _ _ _ _ _ _ _)
      | (with_reducible exact LeO.refl _)
      | (with_reducible exact LeO.none _)
      | (with_reducible refine LeO.ite ?_ ?_)
      | (with_reducible refine LeO.bind ?_ (fun _ => ?_))
      | exact ih0 _ _ _ _ _
      | exact ih1 _ _ _ _ _ _ _
      | exact ih2 _ _ _ _ _ _ _ _ _
      | exact ih3 _ _ _ _ _ _ _ _ _
      | exact ih4 _ _ _ _ _ _ _
      | exact ih5 _ _ _ _ _ _ _
      | exact ih6 _ _ _ _ _ _ _
      | exact LeO.none _
      | refine LeO.ite ?_ ?_
      | refine LeO.bind ?_ (fun _ => ?_)
    · intro y0 y1 y2 y3 y4 y5 y6 y7 y8
      unfold spec_OD128Text.j2
      repeat' first
      | (with_reducible exact ih0 _ _ _ _ _)
      | (with_reducible exact ih1 _ _ _ _ _ _ _)
      | (with_reducible exact ih2 _ _ _ _ _ _ _ _ _)
      | (with_reducible exact ih3 _ _ _ _ _ _ _ _ _)
      | (with_reducible exact ih4 _ _ _ _ _ _ _)
      | (with_reducible exact ih5 _ _ _ _ _ _ _)
      | (with_reducible exact ih6 _ _ _ _ _ _ _)
      | (with_reducible exact LeO.refl _)
      | (with_reducible exact LeO.none _)
      | (with_reducible refine LeO.ite ?_ ?_)
      | (with_reducible refine LeO.bind ?_ (fun _ => ?_))
      | exact ih0 _ _ _ _ _
      | exact ih1 _ _ _ _ _ _ _
      | exact ih2 _ _ _ _ _ _ _ _ _
      | exact ih3 _ _ _ _ _ _ _ _ _
      | exact ih4 _ _ _ _ _ _ _
      | exact ih5 _ _ _ _ _ _ _
      | exact ih6 _ _ _ _ _ _ _
      | exact LeO.none _
      | refine LeO.ite ?_ ?_
      | refine LeO.bind ?_ (fun _ => ?_)
    · intro y0 y1 y2 y3 y4 y5 y6 y7 y8
      unfold spec_OD128Text.j3
      repeat' first
      | (with_reducible exact ih0 _ _ _ _ _)
      | (with_reducible exact ih1 _ _ _ _ _ _ _)
      | (with_reducible exact ih2 _ _ _ _ _ _ _ _ _)
      | (with_reducible exact ih3 _ _ _ _ _ _ _ _ _)
      | (with_reducible exact ih4 _ _ _ _ _ _ _)
      | (with_reducible exact ih5 _ _ _ _ _ _ _)
      | (with_reducible exact ih6 _ _ _ _ _ _ _)
      | (with_reducible exact LeO.refl _)
      | (with_reducible exact LeO.none _)
      | (with_reducible refine LeO.ite ?_ ?_)
      | (with_reducible refine LeO.bind ?_ (fun _ => ?_))
      | exact ih0 _ _ _ _ _
      | exact ih1 _ _ _ _ _ _ _
      | exact ih2 _ _ _ _ _ _ _ _ _
      | exact ih3 _ _ _ _ _ _ _ _ _
      | exact ih4 _ _ _ _ _ _ _
      | exact ih5 _ _ _ _ _ _ _
      | exact ih6 _ _ _ _ _ _ _
      | exact LeO.none _
      | refine LeO.ite ?_ ?_
      | refine LeO.bind ?_ (fun _ => ?_)
    · intro y0 y1 y2 y3 y4 y5 y6
      unfold spec_OD128Text.j4
      repeat' first
      | (with_reducible exact ih0 _ _ _ _ _)
      | (with_reducible exact ih1 _ _ _ _ _ _ _)
      | (with_reducible exact ih2 _ _ _ _ _ _ _ _ _)
      | (with_reducible exact ih3 _ _ _ _ _ _ _ _ _)
      | (with_reducible exact ih4 _ _ _ _ _ _ _)
      | (with_reducible exact ih5 _ _ _ _ _ _ _)
      | (with_reducible exact ih6 _ _ _ _ _ _ _)
      | (with_reducible exact LeO.refl _)
      | (with_reducible exact LeO.none _)
      | (with_reducible refine LeO.ite ?_ ?_)
      | (with_reducible refine LeO.bind ?_ (fun _ => ?_))
      | exact ih0 _ _ _ _ _
      | exact ih1 _ _ _ _ _ _ _
      | exact ih2 _ _ _ _ _ _ _ _ _
      | exact ih3 _ _ _ _ _ _ _ _ _
      | exact ih4 _ _ _ _ _ _ _
      | exact ih5 _ _ _ _ _ _ _
      | exact ih6 _ _ _ _ _ _ _
      | exact LeO.none _
      | refine LeO.ite ?_ ?_
      | refine LeO.bind ?_ (fun _ => ?_)
    · intro y0 y1 y2 y3 y4 y5 y6
      unfold spec_OD128Text.j5
      repeat' first
      | (with_reducible exact ih0 _ _ _ _ _)
      | (with_reducible exact ih1 _ _ _ _ _ _ _)
      | (with_reducible exact ih2 _ _ _ _ _ _ _ _ _)
      | (with_reducible exact ih3 _ _ _ _ _ _ _ _ _)
      | (with_reducible exact ih4 _ _ _ _ _ _ _)
      | (with_reducible exact ih5 _ _ _ _ _ _ _)
      | (with_reducible exact ih6 _ _ _ _ _ _ _)
      | (with_reducible exact LeO.refl _)
      | (with_reducible exact LeO.none _)
      | (with_reducible refine LeO.ite ?_ ?_)
      | (with_reducible refine LeO.bind ?_ (fun _ => ?_))
      | exact ih0 _ _ _ _ _
      | exact ih1 _ _ _ _ _ _ _
      | exact ih2 _ _ _ _ _ _ _ _ _
      | exact ih3 _ _ _ _ _ _ _ _ _
      | exact ih4 _ _ _ _ _ _ _
      | exact ih5 _ _ _ _ _ _ _
      | exact ih6 _ _ _ _ _ _ _
      | exact LeO.none _
      | refine LeO.ite ?_ ?_
      | refine LeO.bind ?_ (fun _ => ?_)
    · intro y0 y1 y2 y3 y4 y5 y6
      unfold spec_OD128Text.j6
      repeat' first
      | (with_reducible exact ih0 _ _ _ _ _)
      | (with_reducible exact ih1 _ _ _ _ _ _ _)
      | (with_reducible exact ih2 _ _ _ _ _ _ _ _ _)
      | (with_reducible exact ih3 _ _ _ _ _ _ _ _ _)
      | (with_reducible exact ih4 _ _ _ _ _ _ _)
      | (with_reducible exact ih5 _ _ _ _ _ _ _)
      | (with_reducible exact ih6 _ _ _ _ _ _ _)
      | (with_reducible exact LeO.refl _)
      | (with_reducible exact LeO.none _)
      | (with_reducible refine LeO.ite ?_ ?_)
      | (with_reducible refine LeO.bind ?_ (fun _ => ?_))
      | exact ih0 _ _ _ _ _
      | exact ih1 _ _ _ _ _ _ _
      | exact ih2 _ _ _ _ _ _ _ _ _
      | exact ih3 _ _ _ _ _ _ _ _ _
      | exact ih4 _ _ _ _ _ _ _
      | exact ih5 _ _ _ _ _ _ _
      | exact ih6 _ _ _ _ _ _ _
      | exact LeO.none _
      | refine LeO.ite ?_ ?_
      | refine LeO.bind ?_ (fun _ => ?_)
theorem spec_OD128Text.mono : ∀ a0 k, LeO (spec_OD128Text.f k a0) (spec_OD128Text.f (k + 1) a0) := by
  intro a0 k
  obtain ⟨ih0, ih1, ih2, ih3, ih4, ih5, ih6⟩ := spec_OD128Text.mono_l k
  unfold spec_OD128Text.f
  repeat' first
      | (with_reducible exact ih0 _ _ _ _ _)
      | (with_reducible exact ih1 _ _ _ _ _ _ _)
      | (with_reducible exact ih2 _ _ _ _ _ _ _ _ _)
      | (with_reducible exact ih3 _ _ _ _ _ _ _ _ _)
      | (with_reducible exact ih4 _ _ _ _ _ _ _)
      | (with_reducible exact ih5 _ _ _ _ _ _ _)
      | (with_reducible exact ih6 _ _ _ _ _ _ _)
      | (with_reducible exact LeO.refl _)
      | (with_reducible exact LeO.none _)
      | (with_reducible refine LeO.ite ?_ ?_)
      | (with_reducible refine LeO.bind ?_ (fun _ => ?_))
      | exact ih0 _ _ _ _ _
      | exact ih1 _ _ _ _ _ _ _
      | exact ih2 _ _ _ _ _ _ _ _ _
      | exact ih3 _ _ _ _ _ _ _ _ _
      | exact ih4 _ _ _ _ _ _ _
      | exact ih5 _ _ _ _ _ _ _
      | exact ih6 _ _ _ _ _ _ _
      | exact LeO.none _
      | refine LeO.ite ?_ ?_
      | refine LeO.bind ?_ (fun _ => ?_)
set_option maxHeartbeats 8000000 in
set_option maxRecDepth 100000 in
theorem spec_OD128Text.calls (k : Nat) (A0 : Option Addr) (c0 : Nat) (l0 : List Int) (r1 : ByteArray) (r2 : Bool) (w : World) (hr0 : Kd.C (Kd.int .i64) w A0 l0.length l0) (hc0 : l0.length ≤ c0) (h : spec_OD128Text.f k l0 = some (r1, r2)) :
    Calls Tryz.prog 27 #[.slice A0 l0.length c0] w fun e w' => e = .returned (.tuple #[.string r1, .bool r2]) ∧ Below w.heap.size w w' := by
  have HR0 := Aside0.mk hr0
  have HC0 := Aside0.mk hc0
  clear hr0 hc0
  have HB := Aside0.mk (Below.refl w.heap.size w)
  have H : (if 0 < (l0.length : Int) then (spec_OD128Text.l0 k l0 (rd l0 0) (⟨#[]⟩ : ByteArray) false 1) else (none)) = some (r1, r2) := h
  clear h
  by_cases c2 : 0 < (l0.length : Int)
  · rw [if_pos c2] at H
    have c2b0 : decide (0 < (l0.length : Int)) = true := decide_eq_true c2
    have c2b1 : decide (0 < l0.length) = true := decide_eq_true (by omega)
    clear c2
    have H' := Aside0.mk H
    clear H
    have p347 : 0 ≤ (0 : Int) := (by omega)
    have q347 : 0 < (l0.length : Int) := of_decide_eq_true (by first | (with_reducible assumption) | assumption)
    obtain ⟨ad347, e347, hx347_0⟩ := Kd.at_int HR0.out 0 p347 q347
    cases e347
    have qi347 : (0 < l0.length) = True := eq_true (by omega)
    (try rw [show ((0 : Int)).toNat = 0 from rfl] at hx347_0)
    (try rw [Addr.add_zero'] at hx347_0)
    replace p347 := eq_true p347
    replace q347 := eq_true q347
    go_enter Tryz.func27, Tryz.ntmps27
    go_wp2
    go_loopg [4, 5, 6, 7] k (fun kq v4 v5 v6 v7 w' => ∃ (x4_1 : Int) (x5_1 : ByteArray) (x6_1 : Bool) (x7_1 : Int), v4 = .int .i64 x4_1 ∧ v5 = .string x5_1 ∧ v6 = .bool x6_1 ∧ v7 = .int .i64 x7_1 ∧ Aside0 (spec_OD128Text.l0 kq l0 x4_1 x5_1 x6_1 x7_1 = some (r1, r2)) ∧ Aside0 (kq ≤ k) ∧ Aside0 (Below w.heap.size w w'))
    case atStart => exact ⟨(rd l0 0), ((⟨#[]⟩ : ByteArray)), (false), (1), (by first | rfl | (simp; done) | (simp [*]; done)), (by first | rfl | (simp; done) | (simp [*]; done)), (by first | rfl | (simp; done) | (simp [*]; done)), (by first | rfl | (simp; done) | (simp [*]; done)), H', ⟨Nat.le_refl _⟩, ⟨by repeat (first | (with_reducible first | exact HB.out | apply below_alloc | apply pw_below_drewN | apply below_drew1) | exact HB.out)⟩⟩
    case round =>
      clear H'
      try clear c2
      try clear c2b0
      try clear c2b1
      try clear p2
      try clear hx347_0
      try clear p347
      try clear q347
      obtain ⟨x4_1, x5_1, x6_1, x7_1, rfl, rfl, rfl, rfl, HA, HK1, HB⟩ := hrel
      cases gk with
      | zero => exact absurd HA.out (by simp [spec_OD128Text.l0])
      | succ k1 =>
        have H := HA.out
        clear HA
        simp only [spec_OD128Text.l0] at H
        by_cases c3 : x7_1 < (l0.length : Int)
        · rw [if_pos c3] at H
          have c3b0 : decide (x7_1 < (l0.length : Int)) = true := decide_eq_true c3
          clear c3
          by_cases c4 : 0 ≤ x7_1
          · rw [if_pos c4] at H
            have c4b0 : decide (0 ≤ x7_1) = true := decide_eq_true c4
            clear c4
            have HC5 := Aside0.mk H
            clear H
            have p348 : 0 ≤ (x7_1 : Int) := of_decide_eq_true (by first | (with_reducible assumption) | assumption)
            have q348 : x7_1 < (l0.length : Int) := of_decide_eq_true (by first | (with_reducible assumption) | assumption)
            obtain ⟨ad348, e348, hx348_0⟩ := Kd.at_int HR0.out x7_1 p348 q348
            obtain rfl : ad347 = ad348 := (by injection e348)
            replace hx348_0 := (HB.out.cell (World.block_lt_of_cell? w _ hx348_0)).trans hx348_0
            replace p348 := eq_true p348
            replace q348 := eq_true q348
            go_upto_if 26 with (fail)
            go_cut [9] (fun v9 wc => ∃ (kq : Nat) (x9_4 : Int), v9 = .int .i64 x9_4 ∧ Aside0 (spec_OD128Text.j1 kq l0 x4_1 x5_1 x6_1 x7_1 (rd l0 x7_1) x9_4 = some (r1, r2)) ∧ Aside0 (kq ≤ k1) ∧ Aside0 (Below w.heap.size w wc))
            case first =>
              have H := HC5.out
              clear HC5
              by_cases c6 : x6_1 = true
              · subst c6
                have H1 : (spec_OD128Text.j1 k1 l0 x4_1 x5_1 true x7_1 (rd l0 x7_1) (wrap64 (207 - x4_1))) = some (r1, r2) := by rw [if_pos rfl] at H; exact H
                clear H
                have H := H1
                clear H1
                have H' := Aside0.mk H
                clear H
                go_wp2
                go_meet
                case rel => exact ⟨_, (wrap64 (207 - x4_1)), (by first | rfl | (simp; done) | (simp [*]; done)), H', ⟨by have := HK1.out; first | omega | exact Nat.le_refl _⟩, ⟨by repeat (first | (with_reducible first | exact HB.out | apply below_alloc | apply pw_below_drewN | apply below_drew1) | exact HB.out)⟩⟩
              · replace c6 := Bool.eq_false_iff.mpr c6
                subst c6
                have H1 : (spec_OD128Text.j1 k1 l0 x4_1 x5_1 false x7_1 (rd l0 x7_1) x4_1) = some (r1, r2) := by rw [if_neg (show ¬ (false = true) by decide)] at H; exact H
                clear H
                have H := H1
                clear H1
                have H' := Aside0.mk H
                clear H
                go_wp2
                go_meet
                case rel => exact ⟨_, (x4_1), (by first | rfl | (simp; done) | (simp [*]; done)), H', ⟨by have := HK1.out; first | omega | exact Nat.le_refl _⟩, ⟨by repeat (first | (with_reducible first | exact HB.out | apply below_alloc | apply pw_below_drewN | apply below_drew1) | exact HB.out)⟩⟩
            case rest =>
              clear HC5
              try clear c2
              try clear c2b0
              try clear c2b1
              try clear p2
              try clear c3
              try clear c3b0
              try clear p3
              try clear q3
              try clear hx3
              try clear qi3
              try clear c4
              try clear c4b0
              try clear c6
              try clear p6
              try clear hx347_0
              try clear hx348_0
              try clear p2
              try clear p347
              try clear p348
              try clear q347
              try clear q348
              obtain ⟨kq, x9_4, rfl, HA, HJ4, HB⟩ := hcut
              cases kq with
              | zero => exact absurd HA.out (by simp [spec_OD128Text.j1])
              | succ kj4 =>
                have H := HA.out
                clear HA
                simp only [spec_OD128Text.j1] at H
                have HC7 := Aside0.mk H
                clear H
                go_upto_region 14 with (fail)
                go_cut [30] (fun v30 wc => ∃ (kq : Nat) (x30_6 : Bool), v30 = .bool x30_6 ∧ Aside0 (spec_OD128Text.j2 kq l0 x4_1 x5_1 false x7_1 (rd l0 x7_1) x9_4 x6_1 x30_6 = some (r1, r2)) ∧ Aside0 (kq ≤ kj4) ∧ Aside0 (Below w.heap.size w wc))
                case first =>
                  have H := HC7.out
                  clear HC7
                  by_cases c8 : x4_1 = 105
                  · rw [if_pos c8] at H
                    have c8b0 : (x4_1 == 105) = true := beq_iff_eq.mpr c8
                    have c8b1 : (x4_1 != 105) = false := bne_eq_false_iff_eq.mpr c8
                    clear c8
                    (first | rw [c8b0] | (simp only [i64_w, i32_w]; rw [c8b0]) | skip)
                    have H' := Aside0.mk H
                    clear H
                    go_wp2
                    go_meet
                    case rel => exact ⟨_, (decide ((rd l0 x7_1) < 100)), (by first | rfl | (simp; done) | (simp [*]; done)), H', ⟨by have := HK1.out; have := HJ4.out; first | omega | exact Nat.le_refl _⟩, ⟨by repeat (first | (with_reducible first | exact HB.out | apply below_alloc | apply pw_below_drewN | apply below_drew1) | exact HB.out)⟩⟩
                  · rw [if_neg c8] at H
                    have c8b0 : (x4_1 == 105) = false := beq_eq_false_iff_ne.mpr c8
                    have c8b1 : (x4_1 != 105) = true := bne_iff_ne.mpr c8
                    (first | rw [c8b0] | (simp only [i64_w, i32_w]; rw [c8b0]) | skip)
                    have H' := Aside0.mk H
                    clear H
                    go_wp2
                    go_meet
                    case rel => exact ⟨_, (false), (by first | rfl | (simp; done) | (simp [*]; done)), H', ⟨by have := HK1.out; have := HJ4.out; first | omega | exact Nat.le_refl _⟩, ⟨by repeat (first | (with_reducible first | exact HB.out | apply below_alloc | apply pw_below_drewN | apply below_drew1) | exact HB.out)⟩⟩
                case rest =>
                  clear HC7
                  try clear c2
                  try clear c2b0
                  try clear c2b1
                  try clear p2
                  try clear c3
                  try clear c3b0
                  try clear p3
                  try clear q3
                  try clear hx3
                  try clear qi3
                  try clear c4
                  try clear c4b0
                  try clear c6
                  try clear p6
                  try clear c8
                  try clear c8b0
                  try clear c8b1
                  try clear hx347_0
                  try clear hx348_0
                  try clear p2
                  try clear p3
                  try clear p347
                  try clear p348
                  try clear p6
                  try clear q3
                  try clear q347
                  try clear q348
                  obtain ⟨kq, x30_6, rfl, HA, HJ6, HB⟩ := hcut
                  cases kq with
                  | zero => exact absurd HA.out (by simp [spec_OD128Text.j2])
                  | succ kj6 =>
                    have H := HA.out
                    clear HA
                    simp only [spec_OD128Text.j2] at H
                    by_cases c9 : x30_6 = true
                    · subst c9
                      have H1 : ((some (([(wrap64 (48 + (wrap64 (Int.tdiv (rd l0 x7_1) 10)))) % 256, (wrap64 (48 + (Int.tmod (rd l0 x7_1) 10))) % 256] : List Int) : List Int)).bind fun y349 => (if x5_1.size + (strOfNums y349).size ≤ 9223372036854775807 then (spec_OD128Text.l0 kj6 l0 x4_1 (x5_1 ++ (strOfNums y349)) false (wrap64 (x7_1 + 1))) else (none))) = some (r1, r2) := by rw [if_pos rfl] at H; exact H
                      clear H
                      have H := H1
                      clear H1
                      obtain ⟨y349, hy349⟩ : ∃ y_ : List Int, y_ = (([(wrap64 (48 + (wrap64 (Int.tdiv (rd l0 x7_1) 10)))) % 256, (wrap64 (48 + (Int.tmod (rd l0 x7_1) 10))) % 256] : List Int)) := ⟨_, rfl⟩
                      replace H : (if x5_1.size + (strOfNums y349).size ≤ 9223372036854775807 then (spec_OD128Text.l0 kj6 l0 x4_1 (x5_1 ++ (strOfNums y349)) false (wrap64 (x7_1 + 1))) else (none)) = some (r1, r2) := by first | (rw [hy349]; with_reducible exact H) | (have H2_ := (Option.bind_some _ _).symm.trans H; rw [hy349]; with_reducible exact H2_) | (have H2_ := (Option.bind_some _ _).symm.trans H; with_reducible exact H2_) | with_reducible exact H | (rw [hy349]; exact H) | exact H
                      have Ny349 := Aside0.mk hy349
                      clear hy349
                      by_cases c10 : x5_1.size + (strOfNums y349).size ≤ 9223372036854775807
                      · rw [if_pos c10] at H
                        have c10b0 := eq_true c10
                        have c10b1 : decide (x5_1.size + (strOfNums y349).size ≤ 9223372036854775807) = true := decide_eq_true c10
                        try have c10b2 : (9223372036854775807 < x5_1.size + (strOfNums y349).size) = False := eq_false (Nat.not_lt.2 c10)
                        have H' := Aside0.mk H
                        clear H
                        go_wp2_with (first | ((with_reducible refine gate_dst (N := 46) rfl ?_); refine Kd.R_lit (Kd.int .u8) _ 5 ?hg (N := 46) ?hd (xs := ([(wrap64 (48 + (wrap64 (Int.tdiv (rd l0 x7_1) 10)))) % 256, (wrap64 (48 + (Int.tmod (rd l0 x7_1) 10))) % 256] : List Int)) (inner := [.int .u8 ((wrap64 (48 + (wrap64 (Int.tdiv (rd l0 x7_1) 10)))) % 256), .int .u8 ((wrap64 (48 + (Int.tmod (rd l0 x7_1) 10))) % 256)]) (ok := fun _ => True) (okp := fun _ => True) ?hr ?hp (fun _ hk => hk) trivial (Below.refl _ _) (Nat.le_refl _) (by simp) ?_; (case hd => rfl); (case hg => rfl); (case hr => first | (go_simp; done) | (go_simp; rfl)); (case hp => exact (Reps.one (show Kd.M (Kd.int .u8) _ _ _ ((wrap64 (48 + (wrap64 (Int.tdiv (rd l0 x7_1) 10)))) % 256) [.int .u8 ((wrap64 (48 + (wrap64 (Int.tdiv (rd l0 x7_1) 10)))) % 256)] from rfl) (Reps.one (show Kd.M (Kd.int .u8) _ _ _ ((wrap64 (48 + (Int.tmod (rd l0 x7_1) 10))) % 256) [.int .u8 ((wrap64 (48 + (Int.tmod (rd l0 x7_1) 10))) % 256)] from rfl) (Reps.none _ _)))); intro v350 w11 ho12 hb hg_ hnew_; clear hg_ hnew_; (first | rw [← Ny349.out] at ho12 | (simp only [Int.reduceToNat] at ho12; rw [← Ny349.out] at ho12)); have n0_ := Aside0.mk (Kd.R_lower ho12 (below_size (by repeat (first | (with_reducible first | exact HB.out | apply below_alloc | apply pw_below_drewN | apply below_drew1) | exact HB.out)))); have n1_ := Aside0.mk (below_step (by repeat (first | (with_reducible first | exact HB.out | apply below_alloc | apply pw_below_drewN | apply below_drew1) | exact HB.out)) hb); clear HB; have HO351 := n0_; have HB := n1_; clear n0_ n1_; clear hb ho12; have hcv13 := own_string (P := Tryz.prog) Tryz.underlying22 Tryz.underlying5 Tryz.underlying9 (Kd.own_of_R HO351.out)))
                        go_roundg kj6
                        case measure => have := HK1.out; have := HJ4.out; have := HJ6.out; omega
                        case rel => exact ⟨(x4_1), (x5_1 ++ (strOfNums y349)), (false), (wrap64 (x7_1 + 1)), (by first | rfl | (simp; done) | (simp [*]; done)), (by first | rfl | (simp; done) | (simp [*]; done)), (by first | rfl | (simp; done) | (simp [*]; done)), (by first | rfl | (simp; done) | (simp [*]; done)), H', ⟨by have := HK1.out; have := HJ4.out; have := HJ6.out; omega⟩, ⟨by repeat (first | (with_reducible first | exact HB.out | apply below_alloc | apply pw_below_drewN | apply below_drew1) | exact HB.out)⟩⟩
                      · rw [if_neg c10] at H
                        exact absurd H (by simp)
                    · replace c9 := Bool.eq_false_iff.mpr c9
                      subst c9
                      have H1 : (if x4_1 = 105 then (spec_OD128Text.j3 kj6 l0 x4_1 x5_1 false x7_1 (rd l0 x7_1) x9_4 x6_1 false) else (spec_OD128Text.j3 kj6 l0 x4_1 x5_1 false x7_1 (rd l0 x7_1) x9_4 x6_1 (decide ((rd l0 x7_1) < 96)))) = some (r1, r2) := by rw [if_neg (show ¬ (false = true) by decide)] at H; exact H
                      clear H
                      have H := H1
                      clear H1
                      have HC14 := Aside0.mk H
                      clear H
                      go_upto_region 16 with (fail)
                      go_cut [49] (fun v49 wc => ∃ (kq : Nat) (x49_13 : Bool), v49 = .bool x49_13 ∧ Aside0 (spec_OD128Text.j3 kq l0 x4_1 x5_1 false x7_1 (rd l0 x7_1) x9_4 x6_1 x49_13 = some (r1, r2)) ∧ Aside0 (kq ≤ kj6) ∧ Aside0 (Below w.heap.size w wc))
                      case first =>
                        have H := HC14.out
                        clear HC14
                        by_cases c15 : x4_1 = 105
                        · rw [if_pos c15] at H
                          have c15b0 : (x4_1 == 105) = true := beq_iff_eq.mpr c15
                          have c15b1 : (x4_1 != 105) = false := bne_eq_false_iff_eq.mpr c15
                          clear c15
                          (first | rw [c15b0] | (simp only [i64_w, i32_w]; rw [c15b0]) | skip)
                          have H' := Aside0.mk H
                          clear H
                          go_wp2
                          go_meet
                          case rel => exact ⟨_, (false), (by first | rfl | (simp; done) | (simp [*]; done)), H', ⟨by have := HK1.out; have := HJ4.out; have := HJ6.out; first | omega | exact Nat.le_refl _⟩, ⟨by repeat (first | (with_reducible first | exact HB.out | apply below_alloc | apply pw_below_drewN | apply below_drew1) | exact HB.out)⟩⟩
                        · rw [if_neg c15] at H
                          have c15b0 : (x4_1 == 105) = false := beq_eq_false_iff_ne.mpr c15
                          have c15b1 : (x4_1 != 105) = true := bne_iff_ne.mpr c15
                          (first | rw [c15b0] | (simp only [i64_w, i32_w]; rw [c15b0]) | skip)
                          have H' := Aside0.mk H
                          clear H
                          go_wp2
                          go_meet
                          case rel => exact ⟨_, (decide ((rd l0 x7_1) < 96)), (by first | rfl | (simp; done) | (simp [*]; done)), H', ⟨by have := HK1.out; have := HJ4.out; have := HJ6.out; first | omega | exact Nat.le_refl _⟩, ⟨by repeat (first | (with_reducible first | exact HB.out | apply below_alloc | apply pw_below_drewN | apply below_drew1) | exact HB.out)⟩⟩
                      case rest =>
                        clear HC14
                        try clear c1
                        try clear hcv1
                        try clear c2
                        try clear c2b0
                        try clear c2b1
                        try clear p2
                        try clear c3
                        try clear c3b0
                        try clear p3
                        try clear q3
                        try clear hx3
                        try clear qi3
                        try clear c4
                        try clear c4b0
                        try clear c6
                        try clear p6
                        try clear c8
                        try clear c8b0
                        try clear c8b1
                        try clear c9
                        try clear c10
                        try clear c10b0
                        try clear c10b1
                        try clear c10b2
                        try clear hcv13
                        try clear c15
                        try clear c15b0
                        try clear c15b1
                        try clear hx347_0
                        try clear hx348_0
                        try clear p2
                        try clear p3
                        try clear p347
                        try clear p348
                        try clear p6
                        try clear q3
                        try clear q347
                        try clear q348
                        obtain ⟨kq, x49_13, rfl, HA, HJ13, HB⟩ := hcut
                        cases kq with
                        | zero => exact absurd HA.out (by simp [spec_OD128Text.j3])
                        | succ kj13 =>
                          have H := HA.out
                          clear HA
                          simp only [spec_OD128Text.j3] at H
                          by_cases c16 : x49_13 = true
                          · subst c16
                            have H1 : (if x9_4 = 103 then (if (rd l0 x7_1) ≥ 64 then ((some (([(wrap64 ((rd l0 x7_1) - 64)) % 256] : List Int) : List Int)).bind fun y352 => (if x5_1.size + (strOfNums y352).size ≤ 9223372036854775807 then (spec_OD128Text.l0 kj13 l0 x4_1 (x5_1 ++ (strOfNums y352)) false (wrap64 (x7_1 + 1))) else (none))) else ((some (([(wrap64 ((rd l0 x7_1) + 32)) % 256] : List Int) : List Int)).bind fun y355 => (if x5_1.size + (strOfNums y355).size ≤ 9223372036854775807 then (spec_OD128Text.l0 kj13 l0 x4_1 (x5_1 ++ (strOfNums y355)) false (wrap64 (x7_1 + 1))) else (none)))) else ((some (([(wrap64 ((rd l0 x7_1) + 32)) % 256] : List Int) : List Int)).bind fun y358 => (if x5_1.size + (strOfNums y358).size ≤ 9223372036854775807 then (spec_OD128Text.l0 kj13 l0 x4_1 (x5_1 ++ (strOfNums y358)) false (wrap64 (x7_1 + 1))) else (none)))) = some (r1, r2) := by rw [if_pos rfl] at H; exact H
                            clear H
                            have H := H1
                            clear H1
                            by_cases c17 : x9_4 = 103
                            · rw [if_pos c17] at H
                              have c17b0 : (x9_4 == 103) = true := beq_iff_eq.mpr c17
                              have c17b1 : (x9_4 != 103) = false := bne_eq_false_iff_eq.mpr c17
                              clear c17
                              by_cases c18 : (rd l0 x7_1) ≥ 64
                              · rw [if_pos c18] at H
                                have c18b0 : decide (64 ≤ (rd l0 x7_1)) = true := decide_eq_true c18
                                clear c18
                                obtain ⟨y352, hy352⟩ : ∃ y_ : List Int, y_ = (([(wrap64 ((rd l0 x7_1) - 64)) % 256] : List Int)) := ⟨_, rfl⟩
                                replace H : (if x5_1.size + (strOfNums y352).size ≤ 9223372036854775807 then (spec_OD128Text.l0 kj13 l0 x4_1 (x5_1 ++ (strOfNums y352)) false (wrap64 (x7_1 + 1))) else (none)) = some (r1, r2) := by first | (rw [hy352]; with_reducible exact H) | (have H2_ := (Option.bind_some _ _).symm.trans H; rw [hy352]; with_reducible exact H2_) | (have H2_ := (Option.bind_some _ _).symm.trans H; with_reducible exact H2_) | with_reducible exact H | (rw [hy352]; exact H) | exact H
                                have Ny352 := Aside0.mk hy352
                                clear hy352
                                by_cases c19 : x5_1.size + (strOfNums y352).size ≤ 9223372036854775807
                                · rw [if_pos c19] at H
                                  have c19b0 := eq_true c19
                                  have c19b1 : decide (x5_1.size + (strOfNums y352).size ≤ 9223372036854775807) = true := decide_eq_true c19
                                  try have c19b2 : (9223372036854775807 < x5_1.size + (strOfNums y352).size) = False := eq_false (Nat.not_lt.2 c19)
                                  have H' := Aside0.mk H
                                  clear H
                                  go_wp2_with (first | ((with_reducible refine gate_dst (N := 69) rfl ?_); refine Kd.R_lit (Kd.int .u8) _ 5 ?hg (N := 69) ?hd (xs := ([(wrap64 ((rd l0 x7_1) - 64)) % 256] : List Int)) (inner := [.int .u8 ((wrap64 ((rd l0 x7_1) - 64)) % 256)]) (ok := fun _ => True) (okp := fun _ => True) ?hr ?hp (fun _ hk => hk) trivial (Below.refl _ _) (Nat.le_refl _) (by simp) ?_; (case hd => rfl); (case hg => rfl); (case hr => first | (go_simp; done) | (go_simp; rfl)); (case hp => exact (Reps.one (show Kd.M (Kd.int .u8) _ _ _ ((wrap64 ((rd l0 x7_1) - 64)) % 256) [.int .u8 ((wrap64 ((rd l0 x7_1) - 64)) % 256)] from rfl) (Reps.none _ _))); intro v353 w20 ho21 hb hg_ hnew_; clear hg_ hnew_; (first | rw [← Ny352.out] at ho21 | (simp only [Int.reduceToNat] at ho21; rw [← Ny352.out] at ho21)); have n0_ := Aside0.mk (Kd.R_lower ho21 (below_size (by repeat (first | (with_reducible first | exact HB.out | apply below_alloc | apply pw_below_drewN | apply below_drew1) | exact HB.out)))); have n1_ := Aside0.mk (below_step (by repeat (first | (with_reducible first | exact HB.out | apply below_alloc | apply pw_below_drewN | apply below_drew1) | exact HB.out)) hb); clear HB; have HO354 := n0_; have HB := n1_; clear n0_ n1_; clear hb ho21; have hcv22 := own_string (P := Tryz.prog) Tryz.underlying22 Tryz.underlying5 Tryz.underlying9 (Kd.own_of_R HO354.out)))
                                  go_roundg kj13
                                  case measure => have := HK1.out; have := HJ4.out; have := HJ6.out; have := HJ13.out; omega
                                  case rel => exact ⟨(x4_1), (x5_1 ++ (strOfNums y352)), (false), (wrap64 (x7_1 + 1)), (by first | rfl | (simp; done) | (simp [*]; done)), (by first | rfl | (simp; done) | (simp [*]; done)), (by first | rfl | (simp; done) | (simp [*]; done)), (by first | rfl | (simp; done) | (simp [*]; done)), H', ⟨by have := HK1.out; have := HJ4.out; have := HJ6.out; have := HJ13.out; omega⟩, ⟨by repeat (first | (with_reducible first | exact HB.out | apply below_alloc | apply pw_below_drewN | apply below_drew1) | exact HB.out)⟩⟩
                                · rw [if_neg c19] at H
                                  exact absurd H (by simp)
                              · rw [if_neg c18] at H
                                have c18b0 : decide (64 ≤ (rd l0 x7_1)) = false := decide_eq_false c18
                                clear c18
                                obtain ⟨y355, hy355⟩ : ∃ y_ : List Int, y_ = (([(wrap64 ((rd l0 x7_1) + 32)) % 256] : List Int)) := ⟨_, rfl⟩
                                replace H : (if x5_1.size + (strOfNums y355).size ≤ 9223372036854775807 then (spec_OD128Text.l0 kj13 l0 x4_1 (x5_1 ++ (strOfNums y355)) false (wrap64 (x7_1 + 1))) else (none)) = some (r1, r2) := by first | (rw [hy355]; with_reducible exact H) | (have H2_ := (Option.bind_some _ _).symm.trans H; rw [hy355]; with_reducible exact H2_) | (have H2_ := (Option.bind_some _ _).symm.trans H; with_reducible exact H2_) | with_reducible exact H | (rw [hy355]; exact H) | exact H
                                have Ny355 := Aside0.mk hy355
                                clear hy355
                                by_cases c23 : x5_1.size + (strOfNums y355).size ≤ 9223372036854775807
                                · rw [if_pos c23] at H
                                  have c23b0 := eq_true c23
                                  have c23b1 : decide (x5_1.size + (strOfNums y355).size ≤ 9223372036854775807) = true := decide_eq_true c23
                                  try have c23b2 : (9223372036854775807 < x5_1.size + (strOfNums y355).size) = False := eq_false (Nat.not_lt.2 c23)
                                  have H' := Aside0.mk H
                                  clear H
                                  go_wp2_with (first | ((with_reducible refine gate_dst (N := 69) rfl ?_); refine Kd.R_lit (Kd.int .u8) _ 5 ?hg (N := 69) ?hd (xs := ([(wrap64 ((rd l0 x7_1) + 32)) % 256] : List Int)) (inner := [.int .u8 ((wrap64 ((rd l0 x7_1) + 32)) % 256)]) (ok := fun _ => True) (okp := fun _ => True) ?hr ?hp (fun _ hk => hk) trivial (Below.refl _ _) (Nat.le_refl _) (by simp) ?_; (case hd => rfl); (case hg => rfl); (case hr => first | (go_simp; done) | (go_simp; rfl)); (case hp => exact (Reps.one (show Kd.M (Kd.int .u8) _ _ _ ((wrap64 ((rd l0 x7_1) + 32)) % 256) [.int .u8 ((wrap64 ((rd l0 x7_1) + 32)) % 256)] from rfl) (Reps.none _ _))); intro v356 w24 ho25 hb hg_ hnew_; clear hg_ hnew_; (first | rw [← Ny355.out] at ho25 | (simp only [Int.reduceToNat] at ho25; rw [← Ny355.out] at ho25)); have n0_ := Aside0.mk (Kd.R_lower ho25 (below_size (by repeat (first | (with_reducible first | exact HB.out | apply below_alloc | apply pw_below_drewN | apply below_drew1) | exact HB.out)))); have n1_ := Aside0.mk (below_step (by repeat (first | (with_reducible first | exact HB.out | apply below_alloc | apply pw_below_drewN | apply below_drew1) | exact HB.out)) hb); clear HB; have HO357 := n0_; have HB := n1_; clear n0_ n1_; clear hb ho25; have hcv26 := own_string (P := Tryz.prog) Tryz.underlying22 Tryz.underlying5 Tryz.underlying9 (Kd.own_of_R HO357.out)))
                                  go_roundg kj13
                                  case measure => have := HK1.out; have := HJ4.out; have := HJ6.out; have := HJ13.out; omega
                                  case rel => exact ⟨(x4_1), (x5_1 ++ (strOfNums y355)), (false), (wrap64 (x7_1 + 1)), (by first | rfl | (simp; done) | (simp [*]; done)), (by first | rfl | (simp; done) | (simp [*]; done)), (by first | rfl | (simp; done) | (simp [*]; done)), (by first | rfl | (simp; done) | (simp [*]; done)), H', ⟨by have := HK1.out; have := HJ4.out; have := HJ6.out; have := HJ13.out; omega⟩, ⟨by repeat (first | (with_reducible first | exact HB.out | apply below_alloc | apply pw_below_drewN | apply below_drew1) | exact HB.out)⟩⟩
                                · rw [if_neg c23] at H
                                  exact absurd H (by simp)
                            · rw [if_neg c17] at H
                              have c17b0 : (x9_4 == 103) = false := beq_eq_false_iff_ne.mpr c17
                              have c17b1 : (x9_4 != 103) = true := bne_iff_ne.mpr c17
                              obtain ⟨y358, hy358⟩ : ∃ y_ : List Int, y_ = (([(wrap64 ((rd l0 x7_1) + 32)) % 256] : List Int)) := ⟨_, rfl⟩
                              replace H : (if x5_1.size + (strOfNums y358).size ≤ 9223372036854775807 then (spec_OD128Text.l0 kj13 l0 x4_1 (x5_1 ++ (strOfNums y358)) false (wrap64 (x7_1 + 1))) else (none)) = some (r1, r2) := by first | (rw [hy358]; with_reducible exact H) | (have H2_ := (Option.bind_some _ _).symm.trans H; rw [hy358]; with_reducible exact H2_) | (have H2_ := (Option.bind_some _ _).symm.trans H; with_reducible exact H2_) | with_reducible exact H | (rw [hy358]; exact H) | exact H
                              have Ny358 := Aside0.mk hy358
                              clear hy358
                              by_cases c27 : x5_1.size + (strOfNums y358).size ≤ 9223372036854775807
                              · rw [if_pos c27] at H
                                have c27b0 := eq_true c27
                                have c27b1 : decide (x5_1.size + (strOfNums y358).size ≤ 9223372036854775807) = true := decide_eq_true c27
                                try have c27b2 : (9223372036854775807 < x5_1.size + (strOfNums y358).size) = False := eq_false (Nat.not_lt.2 c27)
                                have H' := Aside0.mk H
                                clear H
                                go_wp2_with (first | ((with_reducible refine gate_dst (N := 69) rfl ?_); refine Kd.R_lit (Kd.int .u8) _ 5 ?hg (N := 69) ?hd (xs := ([(wrap64 ((rd l0 x7_1) + 32)) % 256] : List Int)) (inner := [.int .u8 ((wrap64 ((rd l0 x7_1) + 32)) % 256)]) (ok := fun _ => True) (okp := fun _ => True) ?hr ?hp (fun _ hk => hk) trivial (Below.refl _ _) (Nat.le_refl _) (by simp) ?_; (case hd => rfl); (case hg => rfl); (case hr => first | (go_simp; done) | (go_simp; rfl)); (case hp => exact (Reps.one (show Kd.M (Kd.int .u8) _ _ _ ((wrap64 ((rd l0 x7_1) + 32)) % 256) [.int .u8 ((wrap64 ((rd l0 x7_1) + 32)) % 256)] from rfl) (Reps.none _ _))); intro v359 w28 ho29 hb hg_ hnew_; clear hg_ hnew_; (first | rw [← Ny358.out] at ho29 | (simp only [Int.reduceToNat] at ho29; rw [← Ny358.out] at ho29)); have n0_ := Aside0.mk (Kd.R_lower ho29 (below_size (by repeat (first | (with_reducible first | exact HB.out | apply below_alloc | apply pw_below_drewN | apply below_drew1) | exact HB.out)))); have n1_ := Aside0.mk (below_step (by repeat (first | (with_reducible first | exact HB.out | apply below_alloc | apply pw_below_drewN | apply below_drew1) | exact HB.out)) hb); clear HB; have HO360 := n0_; have HB := n1_; clear n0_ n1_; clear hb ho29; have hcv30 := own_string (P := Tryz.prog) Tryz.underlying22 Tryz.underlying5 Tryz.underlying9 (Kd.own_of_R HO360.out)))
                                go_roundg kj13
                                case measure => have := HK1.out; have := HJ4.out; have := HJ6.out; have := HJ13.out; omega
                                case rel => exact ⟨(x4_1), (x5_1 ++ (strOfNums y358)), (false), (wrap64 (x7_1 + 1)), (by first | rfl | (simp; done) | (simp [*]; done)), (by first | rfl | (simp; done) | (simp [*]; done)), (by first | rfl | (simp; done) | (simp [*]; done)), (by first | rfl | (simp; done) | (simp [*]; done)), H', ⟨by have := HK1.out; have := HJ4.out; have := HJ6.out; have := HJ13.out; omega⟩, ⟨by repeat (first | (with_reducible first | exact HB.out | apply below_alloc | apply pw_below_drewN | apply below_drew1) | exact HB.out)⟩⟩
                              · rw [if_neg c27] at H
                                exact absurd H (by simp)
                          · replace c16 := Bool.eq_false_iff.mpr c16
                            subst c16
                            have H1 : (if x6_1 = true then (some ((⟨#[]⟩ : ByteArray), false)) else (if x4_1 = 105 then (spec_OD128Text.j4 kj13 l0 x4_1 x5_1 false x7_1 (rd l0 x7_1) false) else (spec_OD128Text.j4 kj13 l0 x4_1 x5_1 false x7_1 (rd l0 x7_1) ((rd l0 x7_1) == 98)))) = some (r1, r2) := by rw [if_neg (show ¬ (false = true) by decide)] at H; exact H
                            clear H
                            have H := H1
                            clear H1
                            by_cases c31 : x6_1 = true
                            · subst c31
                              have H1 : (some ((⟨#[]⟩ : ByteArray), false)) = some (r1, r2) := by rw [if_pos rfl] at H; exact H
                              clear H
                              have H := H1
                              clear H1
                              simp only [Option.some.injEq, Prod.mk.injEq] at H
                              obtain ⟨rfl, rfl⟩ := H
                              go_wp2
                              go_ret2
                              exact ⟨by first | rfl | (simp [errW_none, errW_some] <;> rfl) | (simp [*, errW_none, errW_some] <;> rfl), by repeat (first | (with_reducible first | exact HB.out | apply below_alloc | apply pw_below_drewN | apply below_drew1) | exact HB.out)⟩
                            · replace c31 := Bool.eq_false_iff.mpr c31
                              subst c31
                              have H1 : (if x4_1 = 105 then (spec_OD128Text.j4 kj13 l0 x4_1 x5_1 false x7_1 (rd l0 x7_1) false) else (spec_OD128Text.j4 kj13 l0 x4_1 x5_1 false x7_1 (rd l0 x7_1) ((rd l0 x7_1) == 98))) = some (r1, r2) := by rw [if_neg (show ¬ (false = true) by decide)] at H; exact H
                              clear H
                              have H := H1
                              clear H1
                              have HC32 := Aside0.mk H
                              clear H
                              go_upto_region 23 with (fail)
                              go_cut [74] (fun v74 wc => ∃ (kq : Nat) (x74_31 : Bool), v74 = .bool x74_31 ∧ Aside0 (spec_OD128Text.j4 kq l0 x4_1 x5_1 false x7_1 (rd l0 x7_1) x74_31 = some (r1, r2)) ∧ Aside0 (kq ≤ kj13) ∧ Aside0 (Below w.heap.size w wc))
                              case first =>
                                have H := HC32.out
                                clear HC32
                                by_cases c33 : x4_1 = 105
                                · rw [if_pos c33] at H
                                  have c33b0 : (x4_1 == 105) = true := beq_iff_eq.mpr c33
                                  have c33b1 : (x4_1 != 105) = false := bne_eq_false_iff_eq.mpr c33
                                  clear c33
                                  (first | rw [c33b0] | (simp only [i64_w, i32_w]; rw [c33b0]) | skip)
                                  have H' := Aside0.mk H
                                  clear H
                                  go_wp2
                                  go_meet
                                  case rel => exact ⟨_, (false), (by first | rfl | (simp; done) | (simp [*]; done)), H', ⟨by have := HK1.out; have := HJ4.out; have := HJ6.out; have := HJ13.out; first | omega | exact Nat.le_refl _⟩, ⟨by repeat (first | (with_reducible first | exact HB.out | apply below_alloc | apply pw_below_drewN | apply below_drew1) | exact HB.out)⟩⟩
                                · rw [if_neg c33] at H
                                  have c33b0 : (x4_1 == 105) = false := beq_eq_false_iff_ne.mpr c33
                                  have c33b1 : (x4_1 != 105) = true := bne_iff_ne.mpr c33
                                  (first | rw [c33b0] | (simp only [i64_w, i32_w]; rw [c33b0]) | skip)
                                  have H' := Aside0.mk H
                                  clear H
                                  go_wp2
                                  go_meet
                                  case rel => exact ⟨_, (((rd l0 x7_1) == 98)), (by first | rfl | (simp; done) | (simp [*]; done)), H', ⟨by have := HK1.out; have := HJ4.out; have := HJ6.out; have := HJ13.out; first | omega | exact Nat.le_refl _⟩, ⟨by repeat (first | (with_reducible first | exact HB.out | apply below_alloc | apply pw_below_drewN | apply below_drew1) | exact HB.out)⟩⟩
                              case rest =>
                                clear HC32
                                try clear c1
                                try clear hcv1
                                try clear c2
                                try clear c2b0
                                try clear c2b1
                                try clear p2
                                try clear hcv2
                                try clear c3
                                try clear c3b0
                                try clear p3
                                try clear q3
                                try clear hx3
                                try clear hcv3
                                try clear qi3
                                try clear c4
                                try clear c4b0
                                try clear c6
                                try clear p6
                                try clear c8
                                try clear c8b0
                                try clear c8b1
                                try clear c9
                                try clear c10
                                try clear c10b0
                                try clear c10b1
                                try clear c10b2
                                try clear hcv13
                                try clear c15
                                try clear c15b0
                                try clear c15b1
                                try clear c16
                                try clear c17
                                try clear c17b0
                                try clear c17b1
                                try clear c18
                                try clear c18b0
                                try clear c19
                                try clear c19b0
                                try clear c19b1
                                try clear c19b2
                                try clear hcv22
                                try clear c23
                                try clear c23b0
                                try clear c23b1
                                try clear c23b2
                                try clear hcv26
                                try clear c27
                                try clear c27b0
                                try clear c27b1
                                try clear c27b2
                                try clear hcv30
                                try clear c31
                                try clear c33
                                try clear c33b0
                                try clear c33b1
                                try clear hx347_0
                                try clear hx348_0
                                try clear p2
                                try clear p3
                                try clear p347
                                try clear p348
                                try clear p6
                                try clear q3
                                try clear q347
                                try clear q348
                                obtain ⟨kq, x74_31, rfl, HA, HJ31, HB⟩ := hcut
                                cases kq with
                                | zero => exact absurd HA.out (by simp [spec_OD128Text.j4])
                                | succ kj31 =>
                                  have H := HA.out
                                  clear HA
                                  simp only [spec_OD128Text.j4] at H
                                  by_cases c34 : x74_31 = true
                                  · subst c34
                                    have H1 : (spec_OD128Text.l0 kj31 l0 x4_1 x5_1 true (wrap64 (x7_1 + 1))) = some (r1, r2) := by rw [if_pos rfl] at H; exact H
                                    clear H
                                    have H := H1
                                    clear H1
                                    have H' := Aside0.mk H
                                    clear H
                                    go_wp2
                                    go_roundg kj31
                                    case measure => have := HK1.out; have := HJ4.out; have := HJ6.out; have := HJ13.out; have := HJ31.out; omega
                                    case rel => exact ⟨(x4_1), (x5_1), (true), (wrap64 (x7_1 + 1)), (by first | rfl | (simp; done) | (simp [*]; done)), (by first | rfl | (simp; done) | (simp [*]; done)), (by first | rfl | (simp; done) | (simp [*]; done)), (by first | rfl | (simp; done) | (simp [*]; done)), H', ⟨by have := HK1.out; have := HJ4.out; have := HJ6.out; have := HJ13.out; have := HJ31.out; omega⟩, ⟨by repeat (first | (with_reducible first | exact HB.out | apply below_alloc | apply pw_below_drewN | apply below_drew1) | exact HB.out)⟩⟩
                                  · replace c34 := Bool.eq_false_iff.mpr c34
                                    subst c34
                                    have H1 : (if (rd l0 x7_1) = 99 then (spec_OD128Text.j5 kj31 l0 x4_1 x5_1 false x7_1 (rd l0 x7_1) (x4_1 != 105)) else (spec_OD128Text.j5 kj31 l0 x4_1 x5_1 false x7_1 (rd l0 x7_1) false)) = some (r1, r2) := by rw [if_neg (show ¬ (false = true) by decide)] at H; exact H
                                    clear H
                                    have H := H1
                                    clear H1
                                    have HC35 := Aside0.mk H
                                    clear H
                                    go_upto_region 25 with (fail)
                                    go_cut [81] (fun v81 wc => ∃ (kq : Nat) (x81_34 : Bool), v81 = .bool x81_34 ∧ Aside0 (spec_OD128Text.j5 kq l0 x4_1 x5_1 false x7_1 (rd l0 x7_1) x81_34 = some (r1, r2)) ∧ Aside0 (kq ≤ kj31) ∧ Aside0 (Below w.heap.size w wc))
                                    case first =>
                                      have H := HC35.out
                                      clear HC35
                                      by_cases c36 : (rd l0 x7_1) = 99
                                      · rw [if_pos c36] at H
                                        have c36b0 : ((rd l0 x7_1) == 99) = true := beq_iff_eq.mpr c36
                                        have c36b1 : ((rd l0 x7_1) != 99) = false := bne_eq_false_iff_eq.mpr c36
                                        clear c36
                                        (first | rw [c36b0] | (simp only [i64_w, i32_w]; rw [c36b0]) | skip)
                                        have H' := Aside0.mk H
                                        clear H
                                        go_wp2
                                        go_meet
                                        case rel => exact ⟨_, ((x4_1 != 105)), (by first | rfl | (simp; done) | (simp [*]; done)), H', ⟨by have := HK1.out; have := HJ4.out; have := HJ6.out; have := HJ13.out; have := HJ31.out; first | omega | exact Nat.le_refl _⟩, ⟨by repeat (first | (with_reducible first | exact HB.out | apply below_alloc | apply pw_below_drewN | apply below_drew1) | exact HB.out)⟩⟩
                                      · rw [if_neg c36] at H
                                        have c36b0 : ((rd l0 x7_1) == 99) = false := beq_eq_false_iff_ne.mpr c36
                                        have c36b1 : ((rd l0 x7_1) != 99) = true := bne_iff_ne.mpr c36
                                        (first | rw [c36b0] | (simp only [i64_w, i32_w]; rw [c36b0]) | skip)
                                        have H' := Aside0.mk H
                                        clear H
                                        go_wp2
                                        go_meet
                                        case rel => exact ⟨_, (false), (by first | rfl | (simp; done) | (simp [*]; done)), H', ⟨by have := HK1.out; have := HJ4.out; have := HJ6.out; have := HJ13.out; have := HJ31.out; first | omega | exact Nat.le_refl _⟩, ⟨by repeat (first | (with_reducible first | exact HB.out | apply below_alloc | apply pw_below_drewN | apply below_drew1) | exact HB.out)⟩⟩
                                    case rest =>
                                      clear HC35
                                      try clear c1
                                      try clear hcv1
                                      try clear c2
                                      try clear c2b0
                                      try clear c2b1
                                      try clear p2
                                      try clear hcv2
                                      try clear c3
                                      try clear c3b0
                                      try clear p3
                                      try clear q3
                                      try clear hx3
                                      try clear hcv3
                                      try clear qi3
                                      try clear c4
                                      try clear c4b0
                                      try clear c6
                                      try clear p6
                                      try clear c8
                                      try clear c8b0
                                      try clear c8b1
                                      try clear c9
                                      try clear c10
                                      try clear c10b0
                                      try clear c10b1
                                      try clear c10b2
                                      try clear hcv13
                                      try clear c15
                                      try clear c15b0
                                      try clear c15b1
                                      try clear c16
                                      try clear c17
                                      try clear c17b0
                                      try clear c17b1
                                      try clear c18
                                      try clear c18b0
                                      try clear c19
                                      try clear c19b0
                                      try clear c19b1
                                      try clear c19b2
                                      try clear hcv22
                                      try clear c23
                                      try clear c23b0
                                      try clear c23b1
                                      try clear c23b2
                                      try clear hcv26
                                      try clear c27
                                      try clear c27b0
                                      try clear c27b1
                                      try clear c27b2
                                      try clear hcv30
                                      try clear c31
                                      try clear c33
                                      try clear c33b0
                                      try clear c33b1
                                      try clear c34
                                      try clear p34
                                      try clear q34
                                      try clear hx34
                                      try clear qi34
                                      try clear c36
                                      try clear c36b0
                                      try clear c36b1
                                      try clear hx347_0
                                      try clear hx348_0
                                      try clear p2
                                      try clear p3
                                      try clear p347
                                      try clear p348
                                      try clear p6
                                      try clear q3
                                      try clear q347
                                      try clear q348
                                      obtain ⟨kq, x81_34, rfl, HA, HJ34, HB⟩ := hcut
                                      cases kq with
                                      | zero => exact absurd HA.out (by simp [spec_OD128Text.j5])
                                      | succ kj34 =>
                                        have H := HA.out
                                        clear HA
                                        simp only [spec_OD128Text.j5] at H
                                        by_cases c37 : x81_34 = true
                                        · subst c37
                                          have H1 : (spec_OD128Text.l0 kj34 l0 105 x5_1 false (wrap64 (x7_1 + 1))) = some (r1, r2) := by rw [if_pos rfl] at H; exact H
                                          clear H
                                          have H := H1
                                          clear H1
                                          have H' := Aside0.mk H
                                          clear H
                                          go_wp2
                                          go_roundg kj34
                                          case measure => have := HK1.out; have := HJ4.out; have := HJ6.out; have := HJ13.out; have := HJ31.out; have := HJ34.out; omega
                                          case rel => exact ⟨(105), (x5_1), (false), (wrap64 (x7_1 + 1)), (by first | rfl | (simp; done) | (simp [*]; done)), (by first | rfl | (simp; done) | (simp [*]; done)), (by first | rfl | (simp; done) | (simp [*]; done)), (by first | rfl | (simp; done) | (simp [*]; done)), H', ⟨by have := HK1.out; have := HJ4.out; have := HJ6.out; have := HJ13.out; have := HJ31.out; have := HJ34.out; omega⟩, ⟨by repeat (first | (with_reducible first | exact HB.out | apply below_alloc | apply pw_below_drewN | apply below_drew1) | exact HB.out)⟩⟩
                                        · replace c37 := Bool.eq_false_iff.mpr c37
                                          subst c37
                                          have H1 : (if (rd l0 x7_1) = 100 then (spec_OD128Text.j6 kj34 l0 x4_1 x5_1 false x7_1 (rd l0 x7_1) (x4_1 != 104)) else (spec_OD128Text.j6 kj34 l0 x4_1 x5_1 false x7_1 (rd l0 x7_1) false)) = some (r1, r2) := by rw [if_neg (show ¬ (false = true) by decide)] at H; exact H
                                          clear H
                                          have H := H1
                                          clear H1
                                          have HC38 := Aside0.mk H
                                          clear H
                                          go_upto_region 27 with (fail)
                                          go_cut [88] (fun v88 wc => ∃ (kq : Nat) (x88_37 : Bool), v88 = .bool x88_37 ∧ Aside0 (spec_OD128Text.j6 kq l0 x4_1 x5_1 false x7_1 (rd l0 x7_1) x88_37 = some (r1, r2)) ∧ Aside0 (kq ≤ kj34) ∧ Aside0 (Below w.heap.size w wc))
                                          case first =>
                                            have H := HC38.out
                                            clear HC38
                                            by_cases c39 : (rd l0 x7_1) = 100
                                            · rw [if_pos c39] at H
                                              have c39b0 : ((rd l0 x7_1) == 100) = true := beq_iff_eq.mpr c39
                                              have c39b1 : ((rd l0 x7_1) != 100) = false := bne_eq_false_iff_eq.mpr c39
                                              clear c39
                                              (first | rw [c39b0] | (simp only [i64_w, i32_w]; rw [c39b0]) | skip)
                                              have H' := Aside0.mk H
                                              clear H
                                              go_wp2
                                              go_meet
                                              case rel => exact ⟨_, ((x4_1 != 104)), (by first | rfl | (simp; done) | (simp [*]; done)), H', ⟨by have := HK1.out; have := HJ4.out; have := HJ6.out; have := HJ13.out; have := HJ31.out; have := HJ34.out; first | omega | exact Nat.le_refl _⟩, ⟨by repeat (first | (with_reducible first | exact HB.out | apply below_alloc | apply pw_below_drewN | apply below_drew1) | exact HB.out)⟩⟩
                                            · rw [if_neg c39] at H
                                              have c39b0 : ((rd l0 x7_1) == 100) = false := beq_eq_false_iff_ne.mpr c39
                                              have c39b1 : ((rd l0 x7_1) != 100) = true := bne_iff_ne.mpr c39
                                              (first | rw [c39b0] | (simp only [i64_w, i32_w]; rw [c39b0]) | skip)
                                              have H' := Aside0.mk H
                                              clear H
                                              go_wp2
                                              go_meet
                                              case rel => exact ⟨_, (false), (by first | rfl | (simp; done) | (simp [*]; done)), H', ⟨by have := HK1.out; have := HJ4.out; have := HJ6.out; have := HJ13.out; have := HJ31.out; have := HJ34.out; first | omega | exact Nat.le_refl _⟩, ⟨by repeat (first | (with_reducible first | exact HB.out | apply below_alloc | apply pw_below_drewN | apply below_drew1) | exact HB.out)⟩⟩
                                          case rest =>
                                            clear HC38
                                            try clear c1
                                            try clear hcv1
                                            try clear c2
                                            try clear c2b0
                                            try clear c2b1
                                            try clear p2
                                            try clear hcv2
                                            try clear c3
                                            try clear c3b0
                                            try clear p3
                                            try clear q3
                                            try clear hx3
                                            try clear hcv3
                                            try clear qi3
                                            try clear c4
                                            try clear c4b0
                                            try clear c6
                                            try clear p6
                                            try clear c8
                                            try clear c8b0
                                            try clear c8b1
                                            try clear c9
                                            try clear c10
                                            try clear c10b0
                                            try clear c10b1
                                            try clear c10b2
                                            try clear hcv13
                                            try clear c15
                                            try clear c15b0
                                            try clear c15b1
                                            try clear c16
                                            try clear c17
                                            try clear c17b0
                                            try clear c17b1
                                            try clear c18
                                            try clear c18b0
                                            try clear c19
                                            try clear c19b0
                                            try clear c19b1
                                            try clear c19b2
                                            try clear hcv22
                                            try clear c23
                                            try clear c23b0
                                            try clear c23b1
                                            try clear c23b2
                                            try clear hcv26
                                            try clear c27
                                            try clear c27b0
                                            try clear c27b1
                                            try clear c27b2
                                            try clear hcv30
                                            try clear c31
                                            try clear c33
                                            try clear c33b0
                                            try clear c33b1
                                            try clear c34
                                            try clear p34
                                            try clear q34
                                            try clear hx34
                                            try clear qi34
                                            try clear c36
                                            try clear c36b0
                                            try clear c36b1
                                            try clear c37
                                            try clear c39
                                            try clear c39b0
                                            try clear c39b1
                                            try clear hx347_0
                                            try clear hx348_0
                                            try clear p2
                                            try clear p3
                                            try clear p34
                                            try clear p347
                                            try clear p348
                                            try clear p6
                                            try clear q3
                                            try clear q34
                                            try clear q347
                                            try clear q348
                                            obtain ⟨kq, x88_37, rfl, HA, HJ37, HB⟩ := hcut
                                            cases kq with
                                            | zero => exact absurd HA.out (by simp [spec_OD128Text.j6])
                                            | succ kj37 =>
                                              have H := HA.out
                                              clear HA
                                              simp only [spec_OD128Text.j6] at H
                                              by_cases c40 : x88_37 = true
                                              · subst c40
                                                have H1 : (spec_OD128Text.l0 kj37 l0 104 x5_1 false (wrap64 (x7_1 + 1))) = some (r1, r2) := by rw [if_pos rfl] at H; exact H
                                                clear H
                                                have H := H1
                                                clear H1
                                                have H' := Aside0.mk H
                                                clear H
                                                go_wp2
                                                go_roundg kj37
                                                case measure => have := HK1.out; have := HJ4.out; have := HJ6.out; have := HJ13.out; have := HJ31.out; have := HJ34.out; have := HJ37.out; omega
                                                case rel => exact ⟨(104), (x5_1), (false), (wrap64 (x7_1 + 1)), (by first | rfl | (simp; done) | (simp [*]; done)), (by first | rfl | (simp; done) | (simp [*]; done)), (by first | rfl | (simp; done) | (simp [*]; done)), (by first | rfl | (simp; done) | (simp [*]; done)), H', ⟨by have := HK1.out; have := HJ4.out; have := HJ6.out; have := HJ13.out; have := HJ31.out; have := HJ34.out; have := HJ37.out; omega⟩, ⟨by repeat (first | (with_reducible first | exact HB.out | apply below_alloc | apply pw_below_drewN | apply below_drew1) | exact HB.out)⟩⟩
                                              · replace c40 := Bool.eq_false_iff.mpr c40
                                                subst c40
                                                have H1 : (if (rd l0 x7_1) = 101 then (if x4_1 = 103 then (some ((⟨#[]⟩ : ByteArray), false)) else (spec_OD128Text.l0 kj37 l0 103 x5_1 false (wrap64 (x7_1 + 1)))) else (some ((⟨#[]⟩ : ByteArray), false))) = some (r1, r2) := by rw [if_neg (show ¬ (false = true) by decide)] at H; exact H
                                                clear H
                                                have H := H1
                                                clear H1
                                                by_cases c41 : (rd l0 x7_1) = 101
                                                · rw [if_pos c41] at H
                                                  have c41b0 : ((rd l0 x7_1) == 101) = true := beq_iff_eq.mpr c41
                                                  have c41b1 : ((rd l0 x7_1) != 101) = false := bne_eq_false_iff_eq.mpr c41
                                                  clear c41
                                                  by_cases c42 : x4_1 = 103
                                                  · rw [if_pos c42] at H
                                                    have c42b0 : (x4_1 == 103) = true := beq_iff_eq.mpr c42
                                                    have c42b1 : (x4_1 != 103) = false := bne_eq_false_iff_eq.mpr c42
                                                    clear c42
                                                    simp only [Option.some.injEq, Prod.mk.injEq] at H
                                                    obtain ⟨rfl, rfl⟩ := H
                                                    go_wp2
                                                    go_ret2
                                                    exact ⟨by first | rfl | (simp [errW_none, errW_some] <;> rfl) | (simp [*, errW_none, errW_some] <;> rfl), by repeat (first | (with_reducible first | exact HB.out | apply below_alloc | apply pw_below_drewN | apply below_drew1) | exact HB.out)⟩
                                                  · rw [if_neg c42] at H
                                                    have c42b0 : (x4_1 == 103) = false := beq_eq_false_iff_ne.mpr c42
                                                    have c42b1 : (x4_1 != 103) = true := bne_iff_ne.mpr c42
                                                    have H' := Aside0.mk H
                                                    clear H
                                                    go_wp2
                                                    go_roundg kj37
                                                    case measure => have := HK1.out; have := HJ4.out; have := HJ6.out; have := HJ13.out; have := HJ31.out; have := HJ34.out; have := HJ37.out; omega
                                                    case rel => exact ⟨(103), (x5_1), (false), (wrap64 (x7_1 + 1)), (by first | rfl | (simp; done) | (simp [*]; done)), (by first | rfl | (simp; done) | (simp [*]; done)), (by first | rfl | (simp; done) | (simp [*]; done)), (by first | rfl | (simp; done) | (simp [*]; done)), H', ⟨by have := HK1.out; have := HJ4.out; have := HJ6.out; have := HJ13.out; have := HJ31.out; have := HJ34.out; have := HJ37.out; omega⟩, ⟨by repeat (first | (with_reducible first | exact HB.out | apply below_alloc | apply pw_below_drewN | apply below_drew1) | exact HB.out)⟩⟩
                                                · rw [if_neg c41] at H
                                                  have c41b0 : ((rd l0 x7_1) == 101) = false := beq_eq_false_iff_ne.mpr c41
                                                  have c41b1 : ((rd l0 x7_1) != 101) = true := bne_iff_ne.mpr c41
                                                  simp only [Option.some.injEq, Prod.mk.injEq] at H
                                                  obtain ⟨rfl, rfl⟩ := H
                                                  go_wp2
                                                  go_ret2
                                                  exact ⟨by first | rfl | (simp [errW_none, errW_some] <;> rfl) | (simp [*, errW_none, errW_some] <;> rfl), by repeat (first | (with_reducible first | exact HB.out | apply below_alloc | apply pw_below_drewN | apply below_drew1) | exact HB.out)⟩
          · rw [if_neg c4] at H
            exact absurd H (by simp)
        · rw [if_neg c3] at H
          have c3b0 : decide (x7_1 < (l0.length : Int)) = false := decide_eq_false c3
          clear c3
          simp only [Option.some.injEq, Prod.mk.injEq] at H
          obtain ⟨rfl, rfl⟩ := H
          go_wp2
          go_ret2
          exact ⟨by first | rfl | (simp [errW_none, errW_some] <;> rfl) | (simp [*, errW_none, errW_some] <;> rfl), by repeat (first | (with_reducible first | exact HB.out | apply below_alloc | apply pw_below_drewN | apply below_drew1) | exact HB.out)⟩
  · rw [if_neg c2] at H
    exact absurd H (by simp)
end Go.Proofs.YthkddnmomjcdaaaGreat.F
namespace Go.Proofs.YthkddnmomjcdaaaGreat.B
open Go.RowKit Go.Proofs.YthkddnmomjcdaaaGreatW.PrintWords Go.Proofs.YthkddnmomjcdaaaGreatW.PrintLast Go.Proofs.YthkddnmomjcdaaaGreatW.PrintMore
set_option linter.unusedVariables false
set_option linter.unusedSimpArgs false

/-! ### Code 128: what the values say -/
def dec128 (s : Int) : Int := if s = 99 then 105 else if s = 100 then 104 else 103
theorem w64 (x : Int) (h0 : -100000 ≤ x) (h1 : x ≤ 1000000000) : wrap64 x = x := by unfold wrap64; omega
theorem take_one (xs : List Int) (p : Nat) (h : p < xs.length) : xs.take (p + 1) = xs.take p ++ [rd xs p] := by
  rw [List.take_succ_eq_append_getElem h]
  have : rd xs (p : Int) = xs[p] := by unfold rd; rw [Int.toNat_natCast, List.getD_eq_getElem?_getD, List.getElem?_eq_getElem h]; rfl
  rw [this]
theorem strk (xs : List Int) (k : Nat) : (strOfNums (xs.take k)).size ≤ k := by rw [str_size9, List.length_take]; omega
/-- One value that speaks: at set A, B, or C. -/
theorem say_C (fs : List Int) (T : ByteArray) (k : Nat) (v a b : Int) (r : ByteArray × Bool) (hk : k < fs.length) (hfl : fs.length ≤ 100000) (hv : rd fs k = v) (hva : v = (a - 48) * 10 + (b - 48)) (ha : 48 ≤ a ∧ a ≤ 57) (hb : 48 ≤ b ∧ b ≤ 57) (hT : T.size ≤ 100000)
    (h : Ev (fun f => F.spec_OD128Text.l0 f fs 105 (T ++ strOfNums [a, b]) false ((k + 1 : Nat) : Int)) r) : Ev (fun f => F.spec_OD128Text.l0 f fs 105 T false k) r := by
  refine Ev.step (f := fun f => F.spec_OD128Text.j1 f fs 105 T false k v 105) (fun f => ?_) ?_
  · rw [F.spec_OD128Text.l0, if_pos (by omega), if_pos (by omega), if_neg (by simp), hv]
  refine Ev.step (f := fun f => F.spec_OD128Text.j2 f fs 105 T false k v 105 false true) (fun f => ?_) ?_
  · rw [F.spec_OD128Text.j1, if_pos rfl, show decide (v < 100) = true from decide_eq_true (by omega)]
  have e1 : wrap64 (48 + wrap64 (Int.tdiv v 10)) % 256 = a := by
    rw [Int.tdiv_eq_ediv_of_nonneg (by omega), w64 (v / 10) (by omega) (by omega), w64 _ (by omega) (by omega)]; omega
  have e2 : wrap64 (48 + Int.tmod v 10) % 256 = b := by
    rw [Int.tmod_eq_emod_of_nonneg (by omega), w64 _ (by omega) (by omega)]; omega
  have hs : (strOfNums [a, b]).size = 2 := by rw [str_size9]; rfl
  refine Ev.step (fun f => ?_) h
  rw [F.spec_OD128Text.j2, if_pos rfl, e1, e2, Option.bind_some, if_pos (by omega), w64 _ (by omega) (by omega)]
  rfl
theorem say_B (fs : List Int) (T : ByteArray) (k : Nat) (v a : Int) (r : ByteArray × Bool) (hk : k < fs.length) (hfl : fs.length ≤ 100000) (hv : rd fs k = v) (hva : v = a - 32) (ha : 32 ≤ a ∧ a < 128) (hT : T.size ≤ 100000)
    (h : Ev (fun f => F.spec_OD128Text.l0 f fs 104 (T ++ strOfNums [a]) false ((k + 1 : Nat) : Int)) r) : Ev (fun f => F.spec_OD128Text.l0 f fs 104 T false k) r := by
  refine Ev.step (f := fun f => F.spec_OD128Text.j1 f fs 104 T false k v 104) (fun f => ?_) ?_
  · rw [F.spec_OD128Text.l0, if_pos (by omega), if_pos (by omega), if_neg (by simp), hv]
  refine Ev.step (f := fun f => F.spec_OD128Text.j2 f fs 104 T false k v 104 false false) (fun f => ?_) ?_
  · rw [F.spec_OD128Text.j1, if_neg (by decide)]
  refine Ev.step (f := fun f => F.spec_OD128Text.j3 f fs 104 T false k v 104 false true) (fun f => ?_) ?_
  · rw [F.spec_OD128Text.j2, if_neg (by simp), if_neg (by decide), show decide (v < 96) = true from decide_eq_true (by omega)]
  have e1 : wrap64 (v + 32) % 256 = a := by rw [w64 _ (by omega) (by omega)]; omega
  have hs : (strOfNums [a]).size = 1 := by rw [str_size9]; rfl
  refine Ev.step (fun f => ?_) h
  rw [F.spec_OD128Text.j3, if_pos rfl, if_neg (by decide), e1, Option.bind_some, if_pos (by omega), w64 _ (by omega) (by omega)]
  rfl
theorem say_A (fs : List Int) (T : ByteArray) (k : Nat) (v a : Int) (r : ByteArray × Bool) (hk : k < fs.length) (hfl : fs.length ≤ 100000) (hv : rd fs k = v) (hva : v = if a < 32 then a + 64 else a - 32) (ha : 0 ≤ a ∧ a < 96) (hT : T.size ≤ 100000)
    (h : Ev (fun f => F.spec_OD128Text.l0 f fs 103 (T ++ strOfNums [a]) false ((k + 1 : Nat) : Int)) r) : Ev (fun f => F.spec_OD128Text.l0 f fs 103 T false k) r := by
  have hvr : 0 ≤ v ∧ v < 96 := by split at hva <;> omega
  refine Ev.step (f := fun f => F.spec_OD128Text.j1 f fs 103 T false k v 103) (fun f => ?_) ?_
  · rw [F.spec_OD128Text.l0, if_pos (by omega), if_pos (by omega), if_neg (by simp), hv]
  refine Ev.step (f := fun f => F.spec_OD128Text.j2 f fs 103 T false k v 103 false false) (fun f => ?_) ?_
  · rw [F.spec_OD128Text.j1, if_neg (by decide)]
  refine Ev.step (f := fun f => F.spec_OD128Text.j3 f fs 103 T false k v 103 false true) (fun f => ?_) ?_
  · rw [F.spec_OD128Text.j2, if_neg (by simp), if_neg (by decide), show decide (v < 96) = true from decide_eq_true (by omega)]
  have hs : (strOfNums [a]).size = 1 := by rw [str_size9]; rfl
  refine Ev.step (fun f => ?_) h
  by_cases hc : a < 32
  · rw [if_pos hc] at hva
    have e1 : wrap64 (v - 64) % 256 = a := by rw [w64 _ (by omega) (by omega)]; omega
    rw [F.spec_OD128Text.j3, if_pos rfl, if_pos rfl, if_pos (by omega), e1, Option.bind_some, if_pos (by omega), w64 _ (by omega) (by omega)]
    rfl
  · rw [if_neg hc] at hva
    have e1 : wrap64 (v + 32) % 256 = a := by rw [w64 _ (by omega) (by omega)]; omega
    rw [F.spec_OD128Text.j3, if_pos rfl, if_pos rfl, if_neg (by omega), e1, Option.bind_some, if_pos (by omega), w64 _ (by omega) (by omega)]
    rfl
/-- A change of the set. -/
theorem say_turn (fs : List Int) (T : ByteArray) (k : Nat) (s c : Int) (r : ByteArray × Bool) (hk : k < fs.length) (hfl : fs.length ≤ 100000) (hv : rd fs k = c) (hs : s = 99 ∨ s = 100 ∨ s = 101) (hc : c = 99 ∨ c = 100 ∨ c = 101) (hne : c ≠ s)
    (h : Ev (fun f => F.spec_OD128Text.l0 f fs (dec128 c) T false ((k + 1 : Nat) : Int)) r) : Ev (fun f => F.spec_OD128Text.l0 f fs (dec128 s) T false k) r := by
  have hw : wrap64 ((k : Int) + 1) = ((k + 1 : Nat) : Int) := by rw [w64 _ (by omega) (by omega)]; rfl
  refine Ev.step (f := fun f => F.spec_OD128Text.j1 f fs (dec128 s) T false k c (dec128 s)) (fun f => ?_) ?_
  · rw [F.spec_OD128Text.l0, if_pos (by omega), if_pos (by omega), if_neg (by simp), hv]
  refine Ev.step (f := fun f => F.spec_OD128Text.j2 f fs (dec128 s) T false k c (dec128 s) false false) (fun f => ?_) ?_
  · rw [F.spec_OD128Text.j1]
    rcases hs with rfl | rfl | rfl <;> rcases hc with rfl | rfl | rfl <;> first | exact absurd rfl hne | rfl
  refine Ev.step (f := fun f => F.spec_OD128Text.j3 f fs (dec128 s) T false k c (dec128 s) false false) (fun f => ?_) ?_
  · rw [F.spec_OD128Text.j2]
    rcases hs with rfl | rfl | rfl <;> rcases hc with rfl | rfl | rfl <;> first | exact absurd rfl hne | rfl
  refine Ev.step (f := fun f => F.spec_OD128Text.j4 f fs (dec128 s) T false k c false) (fun f => ?_) ?_
  · rw [F.spec_OD128Text.j3]
    rcases hs with rfl | rfl | rfl <;> rcases hc with rfl | rfl | rfl <;> first | exact absurd rfl hne | rfl
  refine Ev.step (f := fun f => F.spec_OD128Text.j5 f fs (dec128 s) T false k c (decide (c = 99))) (fun f => ?_) ?_
  · rw [F.spec_OD128Text.j4]
    rcases hs with rfl | rfl | rfl <;> rcases hc with rfl | rfl | rfl <;> first | exact absurd rfl hne | rfl
  rcases hc with rfl | rfl | rfl
  · refine Ev.step (fun f => ?_) h
    rw [F.spec_OD128Text.j5, if_pos (by rfl), hw]
    rfl
  · refine Ev.step (f := fun f => F.spec_OD128Text.j6 f fs (dec128 s) T false k 100 true) (fun f => ?_) ?_
    · rw [F.spec_OD128Text.j5]
      rcases hs with rfl | rfl | rfl <;> first | exact absurd rfl hne | rfl
    refine Ev.step (fun f => ?_) h
    rw [F.spec_OD128Text.j6, if_pos rfl, hw]
    rfl
  · refine Ev.step (f := fun f => F.spec_OD128Text.j6 f fs (dec128 s) T false k 101 false) (fun f => ?_) ?_
    · rw [F.spec_OD128Text.j5]
      rcases hs with rfl | rfl | rfl <;> first | exact absurd rfl hne | rfl
    refine Ev.step (fun f => ?_) h
    rw [F.spec_OD128Text.j6, hw]
    rcases hs with rfl | rfl | rfl <;> first | exact absurd rfl hne | rfl
theorem text_run (xs : List Int) (X : Nat → Int) (hX : ∀ p, X p = 99 ∨ X p = 100) (hr : ∀ v ∈ xs, 0 ≤ v ∧ v < 128) (hn : xs.length ≤ 1000) :
    ∀ (d k : Nat), k + d = 2 * xs.length + 3 → 1 ≤ k → (mach xs X k).acc.length = k →
    Ev (fun f => F.spec_OD128Text.l0 f (full128 xs X) (dec128 (mach xs X k).s) (strOfNums (xs.take (mach xs X k).p)) false k) (strOfNums xs, true) := by
  intro d
  induction d with
  | zero =>
    intro k hk _ hl
    have hi := mach_inv xs X hX hr k
    have := hi.len; have := hi.le
    omega
  | succ d ih =>
    intro k hk h1 hl
    have hi := mach_inv xs X hX hr k
    by_cases hp : (mach xs X k).p < xs.length
    · have hl1 : (mach xs X (k + 1)).acc.length = k + 1 := by
        rw [mach, nxt, if_pos hp]
        split <;> simp [hl]
      have hnext := ih (k + 1) (by omega) (by omega) hl1
      obtain ⟨rest, hrest⟩ := mach_pre xs X hX hr k hp
      have hfl : (full128 xs X).length ≤ 100000 := by have := (full_facts xs X hX hr (by omega)).2.2.1; omega
      have hkl : k < (full128 xs X).length := by rw [hrest, List.length_append]; omega
      have hrd : rd (full128 xs X) k = rd (mach xs X (k + 1)).acc k := by
        unfold rd
        rw [hrest, Int.toNat_natCast, List.getD_eq_getElem?_getD, List.getElem?_append_left (by omega), List.getD_eq_getElem?_getD]
      have hsort := hi.sort
      rw [mach] at hnext hrd
      revert hnext hrd hsort hl hp
      generalize mach xs X k = st
      obtain ⟨p, s, acc⟩ := st
      generalize full128 xs X = fs at hfl hkl ⊢
      dsimp only
      intro hl hp
      unfold nxt
      dsimp only
      rw [if_pos hp]
      intro hnext hrd hsort
      have hlast : ∀ v, rd (acc ++ [v]) k = v := by
        intro v
        unfold rd
        rw [Int.toNat_natCast, List.getD_eq_getElem?_getD, List.getElem?_append_right (by omega), hl, Nat.sub_self]; rfl
      have hT : (strOfNums (xs.take p)).size ≤ 100000 := by have := strk xs p; omega
      have hs9 : s = 99 ∨ s = 100 ∨ s = 101 := by
        rcases hsort with ⟨h, _⟩ | ⟨h, _⟩
        · subst h; simp at hl; omega
        · exact h
      have hx : 0 ≤ rd xs p ∧ rd xs p < 128 := by
        have : rd xs (p : Int) = xs[p] := by unfold rd; rw [Int.toNat_natCast, List.getD_eq_getElem?_getD, List.getElem?_eq_getElem hp]; rfl
        rw [this]; exact hr _ (List.getElem_mem hp)
      have hc := cho_cases xs X hX p s
      by_cases hs : cho xs X p s = s
      · simp only [if_pos hs] at hnext hrd
        rw [hlast] at hrd
        rw [hs] at hc
        rcases hc with ⟨h, ht⟩ | ⟨h, ht⟩ | ⟨h, ht⟩
        · subst h
          have ht := two_facts ht
          rw [if_pos rfl, take_one xs (p + 1) (by omega), take_one xs p hp, List.append_assoc, ← str_append] at hnext
          exact say_C fs _ k _ (rd xs p) (rd xs (p + 1 : Nat)) _ hkl hfl hrd rfl (by omega) (by omega) hT hnext
        · subst h
          rw [if_neg (by decide), take_one xs p hp, ← str_append] at hnext
          exact say_B fs _ k _ (rd xs p) _ hkl hfl hrd rfl (by omega) hT hnext
        · subst h
          rw [if_neg (by decide), take_one xs p hp, ← str_append] at hnext
          exact say_A fs _ k _ (rd xs p) _ hkl hfl hrd rfl (by omega) hT hnext
      · simp only [if_neg hs] at hnext hrd
        rw [hlast, if_neg (by omega)] at hrd
        exact say_turn fs _ k s _ _ hkl hfl hrd hs9 (by omega) hs hnext
    · have hpe : (mach xs X k).p = xs.length := Nat.le_antisymm hi.le (by omega)
      have he := mach_end xs X hX hr k hl hpe
      rw [hpe, List.take_of_length_le (Nat.le_refl _)]
      refine Ev.step (f := fun _ => some (strOfNums xs, true)) (fun f => ?_) (Ev.now _)
      rw [F.spec_OD128Text.l0, if_neg (by rw [← he, hl]; omega)]
      rfl
theorem text128 (xs : List Int) (X : Nat → Int) (hX : ∀ p, X p = 99 ∨ X p = 100) (hr : ∀ v ∈ xs, 0 ≤ v ∧ v < 128) (h0 : 0 < xs.length) (hn : xs.length ≤ 1000) :
    Ev (fun f => F.spec_OD128Text.f f (full128 xs X)) (strOfNums xs, true) := by
  have hp0 : (mach xs X 0).p < xs.length := h0
  obtain ⟨rest, hrest⟩ := mach_pre xs X hX hr 0 hp0
  have hc := cho_cases xs X hX 0 0
  have h1 : mach xs X 1 = ⟨0, cho xs X 0 0, [start128 (cho xs X 0 0)]⟩ := by
    show nxt xs X (mach xs X 0) = _
    unfold nxt
    rw [if_pos hp0, if_neg]
    · rfl
    · show ¬ cho xs X 0 0 = 0
      omega
  have hr1 := text_run xs X hX hr hn (2 * xs.length + 2) 1 (by omega) (Nat.le_refl _) (by rw [h1]; rfl)
  rw [h1] at hr1 hrest
  have hfl : 0 < (full128 xs X).length := by have := (full_facts xs X hX hr h0).2.1; omega
  have hd : rd (full128 xs X) 0 = dec128 (cho xs X 0 0) := by
    rw [hrest]
    show start128 (cho xs X 0 0) = _
    rcases hc with ⟨h, _⟩ | ⟨h, _⟩ | ⟨h, _⟩ <;> rw [h] <;> rfl
  refine Ev.congr (fun f => ?_) hr1
  rw [F.spec_OD128Text.f, if_pos (by omega), hd]
  rfl
end Go.Proofs.YthkddnmomjcdaaaGreat.B
