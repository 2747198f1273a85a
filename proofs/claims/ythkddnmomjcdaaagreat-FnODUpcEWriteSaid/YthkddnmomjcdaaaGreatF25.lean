import Derived.Test.YthkddnmomjcdaaaGreatF0
namespace Go.Proofs.YthkddnmomjcdaaaGreat.F
open Go.RowKit Go.Proofs.YthkddnmomjcdaaaGreatW.PrintWords Go.Proofs.YthkddnmomjcdaaaGreatW.PrintLast Go.Proofs.YthkddnmomjcdaaaGreatW.PrintMore
attribute [local go_sem] max2_int min2_int max_two min_two max_three min_three max_four min_four   -- for this text's walks alone
set_option linter.unusedVariables false
set_option linter.unusedSimpArgs false

/-! ### spec_ODSome: function 25 -/
def spec_ODSome.l0 : Nat → ByteArray → List Int → Int → ByteArray → Int → Option (ByteArray)
  | 0, _, _, _, _, _ => none
  | k + 1, x0, x1, x2, x7, x8 => if x8 < (x1.length : Int) then (if x8 < x2 then (if 0 ≤ x8 then (if (x0.size : Int) = 0 then (none) else (if 0 ≤ (Int.tmod (wrap64 (rd x1 x8)) (x0.size : Int)) then (if (Int.tmod (wrap64 (rd x1 x8)) (x0.size : Int)) ≤ (wrap64 ((Int.tmod (wrap64 (rd x1 x8)) (x0.size : Int)) + 1)) then (if (wrap64 ((Int.tmod (wrap64 (rd x1 x8)) (x0.size : Int)) + 1)) ≤ (x0.size : Int) then (if x7.size + (x0.extract ((Int.tmod (wrap64 (rd x1 x8)) (x0.size : Int)) : Int).toNat ((wrap64 ((Int.tmod (wrap64 (rd x1 x8)) (x0.size : Int)) + 1)) : Int).toNat).size ≤ 9223372036854775807 then (spec_ODSome.l0 k x0 x1 x2 (x7 ++ (x0.extract ((Int.tmod (wrap64 (rd x1 x8)) (x0.size : Int)) : Int).toNat ((wrap64 ((Int.tmod (wrap64 (rd x1 x8)) (x0.size : Int)) + 1)) : Int).toNat)) (wrap64 (x8 + 1))) else (none)) else (none)) else (none)) else (none))) else (none)) else (some x7)) else (some x7)
def spec_ODSome.f (k : Nat) (a0 : ByteArray) (l1 : List Int) (a2 : Int) : Option (ByteArray) := spec_ODSome.l0 k a0 l1 a2 (⟨#[]⟩ : ByteArray) 0
theorem spec_ODSome.mono_l : ∀ k, (∀ y0 y1 y2 y3 y4, LeO (spec_ODSome.l0 k y0 y1 y2 y3 y4) (spec_ODSome.l0 (k + 1) y0 y1 y2 y3 y4))
  | 0 => fun _ _ _ _ _ r h => by simp [spec_ODSome.l0] at h
  | k + 1 => by
    have ih0 := spec_ODSome.mono_l k
    · intro y0 y1 y2 y3 y4
      unfold spec_ODSome.l0
      repeat' first
      | (with_reducible exact ih0 _ _ _ _ _)
      | (with_reducible exact LeO.refl _)
      | (with_reducible exact LeO.none _)
      | (with_reducible refine LeO.ite ?_ ?_)
      | (with_reducible refine LeO.bind ?_ (fun _ => ?_))
      | exact ih0 _ _ _ _ _
      | exact LeO.none _
      | refine LeO.ite ?_ ?_
      | refine LeO.bind ?_ (fun _ => ?_)
theorem spec_ODSome.mono : ∀ a0 a1 a2 k, LeO (spec_ODSome.f k a0 a1 a2) (spec_ODSome.f (k + 1) a0 a1 a2) := by
  intro a0 a1 a2 k
  have ih0 := spec_ODSome.mono_l k
  unfold spec_ODSome.f
  repeat' first
      | (with_reducible exact ih0 _ _ _ _ _)
      | (with_reducible exact LeO.refl _)
      | (with_reducible exact LeO.none _)
      | (with_reducible refine LeO.ite ?_ ?_)
      | (with_reducible refine LeO.bind ?_ (fun _ => ?_))
      | exact ih0 _ _ _ _ _
      | exact LeO.none _
      | refine LeO.ite ?_ ?_
      | refine LeO.bind ?_ (fun _ => ?_)
set_option maxHeartbeats 8000000 in
set_option maxRecDepth 100000 in
theorem spec_ODSome.calls (k : Nat) (a0 : ByteArray) (A1 : Option Addr) (c1 : Nat) (l1 : List Int) (a2 : Int) (r : ByteArray) (w : World) (hr1 : Kd.C (Kd.int .u8) w A1 l1.length l1) (hc1 : l1.length ≤ c1) (h : spec_ODSome.f k a0 l1 a2 = some r) :
    Calls Tryz.prog 25 #[.string a0, .slice A1 l1.length c1, .int .i64 a2] w fun e w' => e = .returned (.string r) ∧ Drawn0 w w' := by
  have HR1 := Aside0.mk hr1
  have HC1 := Aside0.mk hc1
  clear hr1 hc1
  have H : (spec_ODSome.l0 k a0 l1 a2 (⟨#[]⟩ : ByteArray) 0) = some r := h
  clear h
  have H' := Aside0.mk H
  clear H
  go_enter Tryz.func25, Tryz.ntmps25
  go_wp2
  go_loopg [7, 8] k (fun kq v7 v8 w' => ∃ (x7_1 : ByteArray) (x8_1 : Int), v7 = .string x7_1 ∧ v8 = .int .i64 x8_1 ∧ Aside0 (spec_ODSome.l0 kq a0 l1 a2 x7_1 x8_1 = some r) ∧ Aside0 (kq ≤ k) ∧ Drawn0 w w')
  case atStart => exact ⟨((⟨#[]⟩ : ByteArray)), (0), (by first | rfl | (simp; done) | (simp [*]; done)), (by first | rfl | (simp; done) | (simp [*]; done)), H', ⟨Nat.le_refl _⟩, by repeat (first | exact Drawn0.refl _ | apply Drawn0.step)⟩
  case round =>
    clear H'
    try clear c1
    try clear c2
    try clear p2
    obtain ⟨x7_1, x8_1, rfl, rfl, HA, HK1, ⟨m1, rfl⟩⟩ := hrel
    cases gk with
    | zero => exact absurd HA.out (by simp [spec_ODSome.l0])
    | succ k1 =>
      have H := HA.out
      clear HA
      simp only [spec_ODSome.l0] at H
      by_cases c4 : x8_1 < (l1.length : Int)
      · rw [if_pos c4] at H
        have c4b0 : decide (x8_1 < (l1.length : Int)) = true := decide_eq_true c4
        clear c4
        by_cases c5 : x8_1 < a2
        · rw [if_pos c5] at H
          have c5b0 : decide (x8_1 < a2) = true := decide_eq_true c5
          clear c5
          by_cases c6 : 0 ≤ x8_1
          · rw [if_pos c6] at H
            have c6b0 : decide (0 ≤ x8_1) = true := decide_eq_true c6
            clear c6
            by_cases c7 : (a0.size : Int) = 0
            · rw [if_pos c7] at H
              exact absurd H (by simp)
            · rw [if_neg c7] at H
              have c7b0 : ((a0.size : Int) == 0) = false := beq_eq_false_iff_ne.mpr c7
              have c7b1 : ((a0.size : Int) != 0) = true := bne_iff_ne.mpr c7
              obtain ⟨ji8, hji8⟩ : ∃ j_ : Int, (Int.tmod (wrap64 (rd l1 x8_1)) (a0.size : Int)) = j_ := ⟨_, rfl⟩
              replace H : (if 0 ≤ (ji8) then (if (ji8) ≤ (wrap64 ((ji8) + 1)) then (if (wrap64 ((ji8) + 1)) ≤ (a0.size : Int) then (if x7_1.size + (a0.extract ((ji8) : Int).toNat ((wrap64 ((ji8) + 1)) : Int).toNat).size ≤ 9223372036854775807 then (spec_ODSome.l0 k1 a0 l1 a2 (x7_1 ++ (a0.extract ((ji8) : Int).toNat ((wrap64 ((ji8) + 1)) : Int).toNat)) (wrap64 (x8_1 + 1))) else (none)) else (none)) else (none)) else (none)) = some r := by first | (rw [hji8] at H; exact H) | (simp only [hji8] at H ⊢; exact H)
              by_cases c9 : 0 ≤ (ji8)
              · rw [if_pos c9] at H
                have c9b0 := eq_true c9
                have c9b1 : decide (0 ≤ (ji8)) = true := decide_eq_true c9
                clear c9
                by_cases c10 : (ji8) ≤ (wrap64 ((ji8) + 1))
                · rw [if_pos c10] at H
                  have c10b0 := eq_true c10
                  have c10b1 : decide ((ji8) ≤ (wrap64 ((ji8) + 1))) = true := decide_eq_true c10
                  by_cases c11 : (wrap64 ((ji8) + 1)) ≤ (a0.size : Int)
                  · rw [if_pos c11] at H
                    have c11b0 := eq_true c11
                    have c11b1 : decide ((wrap64 ((ji8) + 1)) ≤ (a0.size : Int)) = true := decide_eq_true c11
                    by_cases c12 : x7_1.size + (a0.extract ((ji8) : Int).toNat ((wrap64 ((ji8) + 1)) : Int).toNat).size ≤ 9223372036854775807
                    · rw [if_pos c12] at H
                      have c12b0 := eq_true c12
                      have c12b1 : decide (x7_1.size + (a0.extract ((ji8) : Int).toNat ((wrap64 ((ji8) + 1)) : Int).toNat).size ≤ 9223372036854775807) = true := decide_eq_true c12
                      try have c12b2 : (9223372036854775807 < x7_1.size + (a0.extract ((ji8) : Int).toNat ((wrap64 ((ji8) + 1)) : Int).toNat).size) = False := eq_false (Nat.not_lt.2 c12)
                      have H' := Aside0.mk H
                      clear H
                      have p187 : 0 ≤ (x8_1 : Int) := of_decide_eq_true (by first | (with_reducible assumption) | assumption)
                      have q187 : x8_1 < (l1.length : Int) := of_decide_eq_true (by first | (with_reducible assumption) | assumption)
                      obtain ⟨ad187, e187, hx187_0⟩ := Kd.at_int HR1.out x8_1 p187 q187
                      cases e187
                      replace p187 := eq_true p187
                      replace q187 := eq_true q187
                      go_wp2
                      go_roundg k1
                      case measure => have := HK1.out; omega
                      case rel => exact ⟨(x7_1 ++ (a0.extract ((ji8) : Int).toNat ((wrap64 ((ji8) + 1)) : Int).toNat)), (wrap64 (x8_1 + 1)), (by first | rfl | (simp; done) | (simp only [← hji8] <;> (first | rfl | simp)) | (simp [*]; done)), (by first | rfl | (simp; done) | (simp [*]; done)), H', ⟨by have := HK1.out; omega⟩, by repeat (first | exact Drawn0.refl _ | apply Drawn0.step)⟩
                    · rw [if_neg c12] at H
                      exact absurd H (by simp)
                  · rw [if_neg c11] at H
                    exact absurd H (by simp)
                · rw [if_neg c10] at H
                  exact absurd H (by simp)
              · rw [if_neg c9] at H
                exact absurd H (by simp)
          · rw [if_neg c6] at H
            exact absurd H (by simp)
        · rw [if_neg c5] at H
          have c5b0 : decide (x8_1 < a2) = false := decide_eq_false c5
          clear c5
          obtain rfl := Option.some.inj H
          go_wp2
          go_ret
          exact ⟨by first | rfl | (simp; done) | (simp [*]; done), by repeat (first | exact Drawn0.refl _ | apply Drawn0.step)⟩
      · rw [if_neg c4] at H
        have c4b0 : decide (x8_1 < (l1.length : Int)) = false := decide_eq_false c4
        clear c4
        obtain rfl := Option.some.inj H
        go_wp2
        go_ret
        exact ⟨by first | rfl | (simp; done) | (simp [*]; done), by repeat (first | exact Drawn0.refl _ | apply Drawn0.step)⟩

end Go.Proofs.YthkddnmomjcdaaaGreat.F
