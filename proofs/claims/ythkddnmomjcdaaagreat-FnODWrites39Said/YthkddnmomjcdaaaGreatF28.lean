import Derived.Test.YthkddnmomjcdaaaGreatF0
import Derived.Test.YthkddnmomjcdaaaGreatF32
import Derived.Test.YthkddnmomjcdaaaGreatF36
import Derived.Test.YthkddnmomjcdaaaGreatF38
import Derived.Test.YthkddnmomjcdaaaGreatF47
namespace Go.Proofs.YthkddnmomjcdaaaGreat.F
open Go.RowKit Go.Proofs.YthkddnmomjcdaaaGreatW.PrintWords Go.Proofs.YthkddnmomjcdaaaGreatW.PrintLast Go.Proofs.YthkddnmomjcdaaaGreatW.PrintMore
attribute [local go_sem] max2_int min2_int max_two min_two max_three min_three max_four min_four   -- for this text's walks alone
set_option linter.unusedVariables false
set_option linter.unusedSimpArgs false

/-! ### spec_OD39: function 28 -/
mutual
def spec_OD39.l0 : Nat → ByteArray → List Int → Int → Option (List Bool)
  | 0, _, _, _ => none
  | k + 1, x0, x3, x4 => if x4 ≤ (x0.size : Int) then (if x4 ≥ 0 then (spec_OD39.j1 k x0 x3 x4 43 (decide (x4 < (x0.size : Int)))) else (spec_OD39.j1 k x0 x3 x4 43 false)) else ((spec_ODBars.f k x3).bind fun t366 => (some t366))
def spec_OD39.j1 : Nat → ByteArray → List Int → Int → Int → Bool → Option (List Bool)
  | 0, _, _, _, _, _ => none
  | k + 1, x0, x3, x4, x5, x19 => if x19 = true then (if 0 ≤ x4 then (if x4 < (x0.size : Int) then ((spec_odAt.f k (⟨#[48, 49, 50, 51, 52, 53, 54, 55, 56, 57, 65, 66, 67, 68, 69, 70, 71, 72, 73, 74, 75, 76, 77, 78, 79, 80, 81, 82, 83, 84, 85, 86, 87, 88, 89, 90, 45, 46, 32, 36, 47, 43, 37]⟩ : ByteArray) (bt x0 x4)).bind fun t369 => (spec_OD39.j2 k x0 x3 x4 t369)) else (none)) else (none)) else (spec_OD39.j2 k x0 x3 x4 x5)
def spec_OD39.j2 : Nat → ByteArray → List Int → Int → Int → Option (List Bool)
  | 0, _, _, _, _ => none
  | k + 1, x0, x3, x4, x5 => if x4 ≥ 0 then (if x3.length < 17592186044416 then ((some (x3 ++ [1] : List Int)).bind fun y370 => ((spec_od39Bits.f x5).bind fun t373 => ((spec_odElements.f k t373 9 2).bind fun t374 => (if y370.length + t374.length < 17592186044416 then (spec_OD39.l0 k x0 (y370 ++ t374) (wrap64 (x4 + 1))) else (none))))) else (none)) else ((spec_od39Bits.f x5).bind fun t380 => ((spec_odElements.f k t380 9 2).bind fun t381 => (if x3.length + t381.length < 17592186044416 then (spec_OD39.l0 k x0 (x3 ++ t381) (wrap64 (x4 + 1))) else (none))))
end
def spec_OD39.f (k : Nat) (a0 : ByteArray) : Option (List Bool) := spec_OD39.l0 k a0 ([] : List Int) (-1)
theorem spec_OD39.mono_l : ∀ k, (∀ y0 y1 y2, LeO (spec_OD39.l0 k y0 y1 y2) (spec_OD39.l0 (k + 1) y0 y1 y2)) ∧ (∀ y0 y1 y2 y3 y4, LeO (spec_OD39.j1 k y0 y1 y2 y3 y4) (spec_OD39.j1 (k + 1) y0 y1 y2 y3 y4)) ∧ (∀ y0 y1 y2 y3, LeO (spec_OD39.j2 k y0 y1 y2 y3) (spec_OD39.j2 (k + 1) y0 y1 y2 y3))
  | 0 => ⟨fun _ _ _ r h => by simp [spec_OD39.l0] at h, fun _ _ _ _ _ r h => by simp [spec_OD39.j1] at h, fun _ _ _ _ r h => by simp [spec_OD39.j2] at h⟩
  | k + 1 => by
    obtain ⟨ih0, ih1, ih2⟩ := spec_OD39.mono_l k
    refine ⟨?_, ?_, ?_⟩
    · intro y0 y1 y2
      unfold spec_OD39.l0
      repeat' first
      | (with_reducible exact ih0 _ _ _)
      | (with_reducible exact ih1 _ _ _ _ _)
      | (with_reducible exact ih2 _ _ _ _)
      | (with_reducible exact spec_ODBars.mono _ _)
      | (with_reducible exact spec_odAt.mono _ _ _)
      | (with_reducible exact spec_odElements.mono _ _ _ _)
      | (with_reducible exact LeO.refl _)
      | (with_reducible exact LeO.none _)
      | (with_reducible refine LeO.ite ?_ ?_)
      | (with_reducible refine LeO.bind ?_ (fun _ => ?_))
      | exact ih0 _ _ _
      | exact ih1 _ _ _ _ _
      | exact ih2 _ _ _ _
      | exact spec_ODBars.mono _ _
      | exact spec_odAt.mono _ _ _
      | exact spec_odElements.mono _ _ _ _
      | exact LeO.none _
      | refine LeO.ite ?_ ?_
      | refine LeO.bind ?_ (fun _ => ?_)
    · intro y0 y1 y2 y3 y4
      unfold spec_OD39.j1
      repeat' first
      | (with_reducible exact ih0 _ _ _)
      | (with_reducible exact ih1 _ _ _ _ _)
      | (with_reducible exact ih2 _ _ _ _)
      | (with_reducible exact spec_ODBars.mono _ _)
      | (with_reducible exact spec_odAt.mono _ _ _)
      | (with_reducible exact spec_odElements.mono _ _ _ _)
      | (with_reducible exact LeO.refl _)
      | (with_reducible exact LeO.none _)
      | (with_reducible refine LeO.ite ?_ ?_)
      | (with_reducible refine LeO.bind ?_ (fun _ => ?_))
      | exact ih0 _ _ _
      | exact ih1 _ _ _ _ _
      | exact ih2 _ _ _ _
      | exact spec_ODBars.mono _ _
      | exact spec_odAt.mono _ _ _
      | exact spec_odElements.mono _ _ _ _
      | exact LeO.none _
      | refine LeO.ite ?_ ?_
      | refine LeO.bind ?_ (fun _ => ?_)
    · intro y0 y1 y2 y3
      unfold spec_OD39.j2
      repeat' first
      | (with_reducible exact ih0 _ _ _)
      | (with_reducible exact ih1 _ _ _ _ _)
      | (with_reducible exact ih2 _ _ _ _)
      | (with_reducible exact spec_ODBars.mono _ _)
      | (with_reducible exact spec_odAt.mono _ _ _)
      | (with_reducible exact spec_odElements.mono _ _ _ _)
      | (with_reducible exact LeO.refl _)
      | (with_reducible exact LeO.none _)
      | (with_reducible refine LeO.ite ?_ ?_)
      | (with_reducible refine LeO.bind ?_ (fun _ => ?_))
      | exact ih0 _ _ _
      | exact ih1 _ _ _ _ _
      | exact ih2 _ _ _ _
      | exact spec_ODBars.mono _ _
      | exact spec_odAt.mono _ _ _
      | exact spec_odElements.mono _ _ _ _
      | exact LeO.none _
      | refine LeO.ite ?_ ?_
      | refine LeO.bind ?_ (fun _ => ?_)
theorem spec_OD39.mono : ∀ a0 k, LeO (spec_OD39.f k a0) (spec_OD39.f (k + 1) a0) := by
  intro a0 k
  obtain ⟨ih0, ih1, ih2⟩ := spec_OD39.mono_l k
  unfold spec_OD39.f
  repeat' first
      | (with_reducible exact ih0 _ _ _)
      | (with_reducible exact ih1 _ _ _ _ _)
      | (with_reducible exact ih2 _ _ _ _)
      | (with_reducible exact spec_ODBars.mono _ _)
      | (with_reducible exact spec_odAt.mono _ _ _)
      | (with_reducible exact spec_odElements.mono _ _ _ _)
      | (with_reducible exact LeO.refl _)
      | (with_reducible exact LeO.none _)
      | (with_reducible refine LeO.ite ?_ ?_)
      | (with_reducible refine LeO.bind ?_ (fun _ => ?_))
      | exact ih0 _ _ _
      | exact ih1 _ _ _ _ _
      | exact ih2 _ _ _ _
      | exact spec_ODBars.mono _ _
      | exact spec_odAt.mono _ _ _
      | exact spec_odElements.mono _ _ _ _
      | exact LeO.none _
      | refine LeO.ite ?_ ?_
      | refine LeO.bind ?_ (fun _ => ?_)
set_option maxHeartbeats 8000000 in
set_option maxRecDepth 100000 in
theorem spec_OD39.calls (k : Nat) (a0 : ByteArray) (r : List Bool) (w : World) (h : spec_OD39.f k a0 = some r) :
    Calls Tryz.prog 28 #[.string a0] w fun e w' => ∃ v0_ : Value, e = .returned (v0_) ∧ Kd.R Kd.bool 4 w' w.heap.size (fun _ => True) v0_ r ∧ Below w.heap.size w w' := by
  have HB := Aside0.mk (Below.refl w.heap.size w)
  have H : (spec_OD39.l0 k a0 ([] : List Int) (-1)) = some r := h
  clear h
  have H' := Aside0.mk H
  clear H
  go_enter Tryz.func28, Tryz.ntmps28
  go_wp2
  go_loopg [3, 4] k (fun kq v3 v4 w' => ∃ (x3_1 : List Int) (x4_1 : Int), v4 = .int .i64 x4_1 ∧ Aside0 (spec_OD39.l0 kq a0 x3_1 x4_1 = some r) ∧ Aside0 (kq ≤ k) ∧ Aside0 (Kd.R (Kd.int .i64) 3 w' w.heap.size (fun _ => True) v3 x3_1) ∧ Aside0 (Below w.heap.size w w'))
  case atStart => exact ⟨(([] : List Int)), ((-1)), (by first | rfl | (simp; done) | (simp [*]; done)), H', ⟨Nat.le_refl _⟩, ⟨by first | exact Kd.R_nil _ _ _ _ _ | exact Kd.N_nil _ _ _ _ _ | exact Kd.V_nil _ _ _ _ _ | exact Kd.Q_nil _ _ _ _ _ | exact Kd.S_nil _ _ _ _ _⟩, ⟨by repeat (first | (with_reducible first | exact HB.out | apply below_alloc | apply pw_below_drewN | apply below_drew1) | exact HB.out)⟩⟩
  case round =>
    clear H'
    obtain ⟨x3_1, x4_1, rfl, HA, HK1, HO_3, HB⟩ := hrel
    cases gk with
    | zero => exact absurd HA.out (by simp [spec_OD39.l0])
    | succ k1 =>
      have H := HA.out
      clear HA
      simp only [spec_OD39.l0] at H
      by_cases c2 : x4_1 ≤ (a0.size : Int)
      · rw [if_pos c2] at H
        have c2b0 : decide (x4_1 ≤ (a0.size : Int)) = true := decide_eq_true c2
        clear c2
        have HC3 := Aside0.mk H
        clear H
        go_upto_region 6 with (fail)
        go_cut [19] (fun v19 wc => ∃ (kq : Nat) (x19_2 : Bool), v19 = .bool x19_2 ∧ Aside0 (spec_OD39.j1 kq a0 x3_1 x4_1 43 x19_2 = some r) ∧ Aside0 (kq ≤ k1) ∧ Aside0 (Kd.R (Kd.int .i64) 3 wc w.heap.size (fun _ => True) u3 x3_1) ∧ Aside0 (Below w.heap.size w wc))
        case first =>
          have H := HC3.out
          clear HC3
          by_cases c4 : x4_1 ≥ 0
          · rw [if_pos c4] at H
            have c4b0 : decide (0 ≤ x4_1) = true := decide_eq_true c4
            clear c4
            (first | rw [c4b0] | (simp only [i64_w, i32_w]; rw [c4b0]) | skip)
            have H' := Aside0.mk H
            clear H
            go_wp2
            go_meet
            case rel => exact ⟨_, (decide (x4_1 < (a0.size : Int))), (by first | rfl | (simp; done) | (simp [*]; done)), H', ⟨by have := HK1.out; first | omega | exact Nat.le_refl _⟩, ⟨by (with_reducible repeat (first | apply Kd.R_alloc | apply Kd.R_drewN | apply Kd.R_drew)); exact HO_3.out⟩, ⟨by repeat (first | (with_reducible first | exact HB.out | apply below_alloc | apply pw_below_drewN | apply below_drew1) | exact HB.out)⟩⟩
          · rw [if_neg c4] at H
            have c4b0 : decide (0 ≤ x4_1) = false := decide_eq_false c4
            clear c4
            (first | rw [c4b0] | (simp only [i64_w, i32_w]; rw [c4b0]) | skip)
            have H' := Aside0.mk H
            clear H
            go_wp2
            go_meet
            case rel => exact ⟨_, (false), (by first | rfl | (simp; done) | (simp [*]; done)), H', ⟨by have := HK1.out; first | omega | exact Nat.le_refl _⟩, ⟨by (with_reducible repeat (first | apply Kd.R_alloc | apply Kd.R_drewN | apply Kd.R_drew)); exact HO_3.out⟩, ⟨by repeat (first | (with_reducible first | exact HB.out | apply below_alloc | apply pw_below_drewN | apply below_drew1) | exact HB.out)⟩⟩
        case rest =>
          clear HC3
          try clear c2
          try clear c2b0
          try clear p2
          try clear c4
          try clear c4b0
          obtain ⟨kq, x19_2, rfl, HA, HJ2, HO_3, HB⟩ := hcut
          cases kq with
          | zero => exact absurd HA.out (by simp [spec_OD39.j1])
          | succ kj2 =>
            have H := HA.out
            clear HA
            simp only [spec_OD39.j1] at H
            have HC5 := Aside0.mk H
            clear H
            go_upto_if 19 with (fail)
            go_cut [5] (fun v5 wc => ∃ (kq : Nat) (x5_4 : Int), v5 = .int .i64 x5_4 ∧ Aside0 (spec_OD39.j2 kq a0 x3_1 x4_1 x5_4 = some r) ∧ Aside0 (kq ≤ kj2) ∧ Aside0 (Kd.R (Kd.int .i64) 3 wc w.heap.size (fun _ => True) u3 x3_1) ∧ Aside0 (Below w.heap.size w wc))
            case first =>
              have H := HC5.out
              clear HC5
              by_cases c6 : x19_2 = true
              · subst c6
                have H1 : (if 0 ≤ x4_1 then (if x4_1 < (a0.size : Int) then ((spec_odAt.f kj2 (⟨#[48, 49, 50, 51, 52, 53, 54, 55, 56, 57, 65, 66, 67, 68, 69, 70, 71, 72, 73, 74, 75, 76, 77, 78, 79, 80, 81, 82, 83, 84, 85, 86, 87, 88, 89, 90, 45, 46, 32, 36, 47, 43, 37]⟩ : ByteArray) (bt a0 x4_1)).bind fun t369 => (spec_OD39.j2 kj2 a0 x3_1 x4_1 t369)) else (none)) else (none)) = some r := by rw [if_pos rfl] at H; exact H
                clear H
                have H := H1
                clear H1
                by_cases c7 : 0 ≤ x4_1
                · rw [if_pos c7] at H
                  have c7b0 : decide (0 ≤ x4_1) = true := decide_eq_true c7
                  clear c7
                  (first | rw [c7b0] | (simp only [i64_w, i32_w]; rw [c7b0]) | skip)
                  by_cases c8 : x4_1 < (a0.size : Int)
                  · rw [if_pos c8] at H
                    have c8b0 : decide (x4_1 < (a0.size : Int)) = true := decide_eq_true c8
                    clear c8
                    replace H := Option.bind_eq_some_iff.mp H
                    obtain ⟨t369, A100, H⟩ := H
                    replace H : (spec_OD39.j2 kj2 a0 x3_1 x4_1 t369) = some r := H
                    have A10 := Aside0.mk A100
                    clear A100
                    have H' := Aside0.mk H
                    clear H
                    have p9 : 0 ≤ (x4_1 : Int) := of_decide_eq_true (by first | (with_reducible assumption) | assumption)
                    have q9 : x4_1 < (a0.size : Int) := of_decide_eq_true (by first | (with_reducible assumption) | assumption)
                    have hx9 := bt_at a0 x4_1
                    replace p9 := eq_true p9
                    replace q9 := eq_true q9
                    go_wp2_with (first | ((with_reducible refine gate_callee (f := 32) rfl ?_); refine goesL_ (some 23) rfl rfl Tryz.func32 (by kernel_rfl) rfl #[.string (⟨#[48, 49, 50, 51, 52, 53, 54, 55, 56, 57, 65, 66, 67, 68, 69, 70, 71, 72, 73, 74, 75, 76, 77, 78, 79, 80, 81, 82, 83, 84, 85, 86, 87, 88, 89, 90, 45, 46, 32, 36, 47, 43, 37]⟩ : ByteArray), .int .u8 (bt a0 x4_1)] rfl (by (try simp only [List.map_toArray, List.map_cons, List.map_nil]); first | done | rfl | (simp only [List.length_drop, List.length_take]; rfl)) ?_; (with_reducible refine (spec_odAt.calls kj2 (⟨#[48, 49, 50, 51, 52, 53, 54, 55, 56, 57, 65, 66, 67, 68, 69, 70, 71, 72, 73, 74, 75, 76, 77, 78, 79, 80, 81, 82, 83, 84, 85, 86, 87, 88, 89, 90, 45, 46, 32, 36, 47, 43, 37]⟩ : ByteArray) (bt a0 x4_1) t369 _ A10.out).mono ?_); rintro e w' ⟨rfl, ⟨nd, rfl⟩⟩; refine ⟨_, rfl, ?_⟩))
                    go_meet
                    case rel => exact ⟨_, (t369), (by first | rfl | (simp; done) | (simp [*]; done)), H', ⟨by have := HK1.out; have := HJ2.out; first | omega | exact Nat.le_refl _⟩, ⟨by (with_reducible repeat (first | apply Kd.R_alloc | apply Kd.R_drewN | apply Kd.R_drew)); exact HO_3.out⟩, ⟨by repeat (first | (with_reducible first | exact HB.out | apply below_alloc | apply pw_below_drewN | apply below_drew1) | exact HB.out)⟩⟩
                  · rw [if_neg c8] at H
                    exact absurd H (by simp)
                · rw [if_neg c7] at H
                  exact absurd H (by simp)
              · replace c6 := Bool.eq_false_iff.mpr c6
                subst c6
                have H1 : (spec_OD39.j2 kj2 a0 x3_1 x4_1 43) = some r := by rw [if_neg (show ¬ (false = true) by decide)] at H; exact H
                clear H
                have H := H1
                clear H1
                have H' := Aside0.mk H
                clear H
                go_wp2
                go_meet
                case rel => exact ⟨_, (43), (by first | rfl | (simp; done) | (simp [*]; done)), H', ⟨by have := HK1.out; have := HJ2.out; first | omega | exact Nat.le_refl _⟩, ⟨by (with_reducible repeat (first | apply Kd.R_alloc | apply Kd.R_drewN | apply Kd.R_drew)); exact HO_3.out⟩, ⟨by repeat (first | (with_reducible first | exact HB.out | apply below_alloc | apply pw_below_drewN | apply below_drew1) | exact HB.out)⟩⟩
            case rest =>
              clear HC5
              try clear c2
              try clear c2b0
              try clear p2
              try clear c3
              try clear c4
              try clear c4b0
              try clear c6
              try clear c7
              try clear c7b0
              try clear c8
              try clear c8b0
              try clear p9
              try clear q9
              try clear hx9
              try clear p2
              try clear p9
              try clear q9
              obtain ⟨kq, x5_4, rfl, HA, HJ4, HO_3, HB⟩ := hcut
              cases kq with
              | zero => exact absurd HA.out (by simp [spec_OD39.j2])
              | succ kj4 =>
                have H := HA.out
                clear HA
                simp only [spec_OD39.j2] at H
                by_cases c11 : x4_1 ≥ 0
                · rw [if_pos c11] at H
                  have c11b0 : decide (0 ≤ x4_1) = true := decide_eq_true c11
                  clear c11
                  by_cases c12 : x3_1.length < 17592186044416
                  · rw [if_pos c12] at H
                    have LMc12 := Aside0.mk c12
                    clear c12
                    obtain ⟨y370, hy370⟩ : ∃ y_ : List Int, y_ = (x3_1 ++ [1]) := ⟨_, rfl⟩
                    replace H : ((spec_od39Bits.f x5_4).bind fun t373 => ((spec_odElements.f kj4 t373 9 2).bind fun t374 => (if y370.length + t374.length < 17592186044416 then (spec_OD39.l0 kj4 a0 (y370 ++ t374) (wrap64 (x4_1 + 1))) else (none)))) = some r := by first | (rw [hy370]; with_reducible exact H) | (have H2_ := (Option.bind_some _ _).symm.trans H; rw [hy370]; with_reducible exact H2_) | (have H2_ := (Option.bind_some _ _).symm.trans H; with_reducible exact H2_) | with_reducible exact H | (rw [hy370]; exact H) | exact H
                    have Ny370 := Aside0.mk hy370
                    clear hy370
                    replace H := Option.bind_eq_some_iff.mp H
                    obtain ⟨t373, A130, H⟩ := H
                    replace H : ((spec_odElements.f kj4 t373 9 2).bind fun t374 => (if y370.length + t374.length < 17592186044416 then (spec_OD39.l0 kj4 a0 (y370 ++ t374) (wrap64 (x4_1 + 1))) else (none))) = some r := H
                    have A13 := Aside0.mk A130
                    clear A130
                    replace H := Option.bind_eq_some_iff.mp H
                    obtain ⟨t374, A140, H⟩ := H
                    replace H : (if y370.length + t374.length < 17592186044416 then (spec_OD39.l0 kj4 a0 (y370 ++ t374) (wrap64 (x4_1 + 1))) else (none)) = some r := H
                    have A14 := Aside0.mk A140
                    clear A140
                    by_cases c15 : y370.length + t374.length < 17592186044416
                    · rw [if_pos c15] at H
                      have LMc15 := Aside0.mk c15
                      clear c15
                      obtain ⟨y377, hy377⟩ : ∃ y_ : List Int, y_ = (y370 ++ t374) := ⟨_, rfl⟩
                      replace H : (spec_OD39.l0 kj4 a0 y377 (wrap64 (x4_1 + 1))) = some r := by first | (rw [hy377]; with_reducible exact H) | (have H2_ := (Option.bind_some _ _).symm.trans H; rw [hy377]; with_reducible exact H2_) | (have H2_ := (Option.bind_some _ _).symm.trans H; with_reducible exact H2_) | with_reducible exact H | (rw [hy377]; exact H) | exact H
                      have Ny377 := Aside0.mk hy377
                      clear hy377
                      have H' := Aside0.mk H
                      clear H
                      go_wp2_with (first | ((with_reducible refine gate_builtin (b := .append) (xs := #[.tmp 26, .tmp 27]) rfl ?_); (try (refine gate_guard (by rfl) ?_; dsimp only)); at_builtin; refine Kd.R_append (Kd.int .i64) (w0 := w) w.heap.size rfl (.tmp 26) (.tmp 27) 40 3 (.int .i64 0) 8 rfl Tryz.underlying40 info3 rfl (by decide) (by omega) u3 x3_1 1 [.int .i64 1] (fun _ => True) (fun _ => False) rfl rfl ?aP (fun _ hk => hk.elim) ?aF ?aO ?aB ?aS ?aL ?_; (case aP => exact rfl); (case aB => exact (by repeat (first | (with_reducible first | exact HB.out | apply below_alloc | apply pw_below_drewN | apply below_drew1) | exact HB.out))); (case aF => exact (fun _ _ => trivial)); (case aO => exact (by (with_reducible repeat (first | apply Kd.R_alloc | apply Kd.R_drewN | apply Kd.R_drew)); exact HO_3.out)); (case aS => exact (below_size (by repeat (first | (with_reducible first | exact HB.out | apply below_alloc | apply pw_below_drewN | apply below_drew1) | exact HB.out)))); (case aL => have := LMc12.out; omega); intro v371 w16 ho hb hg hat; rw [← Ny370.out] at ho; have n0_ := Aside0.mk (hb); have n1_ := Aside0.mk (ho); clear HB; clear HO_3; have HB := n0_; have HO372 := n1_; clear n0_ n1_; clear ho hb hg hat) | ((with_reducible refine gate_callee (f := 47) rfl ?_); refine goesL_ (some 31) rfl rfl Tryz.func47 (by kernel_rfl) rfl #[.int .i64 x5_4] rfl (by (try simp only [List.map_toArray, List.map_cons, List.map_nil]); first | done | rfl | (simp only [List.length_drop, List.length_take]; rfl)) ?_; (with_reducible refine (spec_od39Bits.calls x5_4 t373 _ A13.out).mono ?_); rintro e w17 ⟨rfl, hb⟩; refine ⟨_, rfl, ?_⟩; have n0_ := Aside0.mk (Kd.R_below (by (with_reducible repeat (first | apply Kd.R_alloc | apply Kd.R_drewN | apply Kd.R_drew)); exact HO372.out) hb); have n1_ := Aside0.mk (below_step (by repeat (first | (with_reducible first | exact HB.out | apply below_alloc | apply pw_below_drewN | apply below_drew1) | exact HB.out)) hb); clear HO372; clear HB; have HO372 := n0_; have HB := n1_; clear n0_ n1_; (try clear hb); (try clear hb2); (try clear hk); (try clear hi)) | ((with_reducible refine gate_callee (f := 36) rfl ?_); refine goesL_ (some 32) rfl rfl Tryz.func36 (by kernel_rfl) rfl #[.int .i64 t373, .int .i64 9, .int .i64 2] rfl (by (try simp only [List.map_toArray, List.map_cons, List.map_nil]); first | done | rfl | (simp only [List.length_drop, List.length_take]; rfl)) ?_; (with_reducible refine (spec_odElements.calls kj4 t373 9 2 t374 _ A14.out).mono ?_); rintro e w18 ⟨v375, rfl, ho0, hb⟩; refine ⟨_, rfl, ?_⟩; have n0_ := Aside0.mk (Kd.R_elder' (by (with_reducible repeat (first | apply Kd.R_alloc | apply Kd.R_drewN | apply Kd.R_drew)); exact HO372.out) (Kd.R_base ho0) hb); have n1_ := Aside0.mk (Kd.R_lower (Kd.R_new' ho0 (Kd.R_lt (by (with_reducible repeat (first | apply Kd.R_alloc | apply Kd.R_drewN | apply Kd.R_drew)); exact HO372.out))) (below_size (by repeat (first | (with_reducible first | exact HB.out | apply below_alloc | apply pw_below_drewN | apply below_drew1) | exact HB.out)))); have n2_ := Aside0.mk (below_step (by repeat (first | (with_reducible first | exact HB.out | apply below_alloc | apply pw_below_drewN | apply below_drew1) | exact HB.out)) hb); clear HO372; clear HB; have HO372 := n0_; have HO376 := n1_; have HB := n2_; clear n0_ n1_ n2_; (try clear hb); (try clear hb2); (try clear hk); (try clear hi); (try clear ho0); obtain ⟨Ao20, co20, eo20⟩ := Kd.R_slice HO376.out; subst eo20) | ((with_reducible refine gate_builtin (b := .append) (xs := #[.tmp 29, .tmp 32]) rfl ?_); (try (refine gate_guard (by rfl) ?_; dsimp only)); at_builtin; refine Kd.R_append_rows (Kd.int .i64) (w0 := w) w.heap.size rfl (.tmp 29) (.tmp 32) 40 3 (.int .i64 0) 8 rfl Tryz.underlying40 info3 rfl (by decide) (by omega) v371 y370 t374 _ _ _ (fun k_ => some k_ ≠ (.slice Ao20 t374.length co20 : Value).ownBlock) (fun _ => False) rfl rfl ?aO ?aR (fun _ _ h => h) (fun _ h => h.elim) ?aF ?aB ?aS ?aL ?_; (case aR => repeat (first | exact (Kd.R_reads' HO376.out).2.2 | (with_reducible refine Kd.C_alloc ?_ _) | (with_reducible refine Kd.C_drewN ?_ _) | (with_reducible refine Kd.C_drew ?_))); (case aB => exact (by repeat (first | (with_reducible first | exact HB.out | apply below_alloc | apply pw_below_drewN | apply below_drew1) | exact HB.out))); (case aF => exact (fun k_ hk => Kd.fresh' (Kd.R_lt (by (with_reducible repeat (first | apply Kd.R_alloc | apply Kd.R_drewN | apply Kd.R_drew)); exact HO376.out)) k_ hk)); (case aO => exact (by (with_reducible repeat (first | apply Kd.R_alloc | apply Kd.R_drewN | apply Kd.R_drew)); exact Kd.R_mono HO372.out (fun _ hk => hk.2))); (case aS => exact (below_size (by repeat (first | (with_reducible first | exact HB.out | apply below_alloc | apply pw_below_drewN | apply below_drew1) | exact HB.out)))); (case aL => have := LMc15.out; omega); intro v378 w19 ho hb hg hat; rw [← Ny377.out] at ho; have n0_ := Aside0.mk (Kd.R_after (ok := (fun _ => True)) (by (with_reducible repeat (first | apply Kd.R_alloc | apply Kd.R_drewN | apply Kd.R_drew)); exact HO376.out) hg hat); have n1_ := Aside0.mk (hb); have n2_ := Aside0.mk (ho); clear HO376; clear HB; clear HO372; have HO376 := n0_; have HB := n1_; have HO379 := n2_; clear n0_ n1_ n2_; clear ho hb hg hat))
                      go_roundg kj4
                      case measure => have := HK1.out; have := HJ2.out; have := HJ4.out; omega
                      case rel => exact ⟨(y377), (wrap64 (x4_1 + 1)), (by first | rfl | (simp; done) | (simp [*]; done)), H', ⟨by have := HK1.out; have := HJ2.out; have := HJ4.out; omega⟩, ⟨by (with_reducible repeat (first | apply Kd.R_alloc | apply Kd.R_drewN | apply Kd.R_drew)); exact Kd.R_mono HO379.out (fun _ hk => trivial)⟩, ⟨by repeat (first | (with_reducible first | exact HB.out | apply below_alloc | apply pw_below_drewN | apply below_drew1) | exact HB.out)⟩⟩
                    · rw [if_neg c15] at H
                      exact absurd H (by simp)
                  · rw [if_neg c12] at H
                    exact absurd H (by simp)
                · rw [if_neg c11] at H
                  have c11b0 : decide (0 ≤ x4_1) = false := decide_eq_false c11
                  clear c11
                  replace H := Option.bind_eq_some_iff.mp H
                  obtain ⟨t380, A210, H⟩ := H
                  replace H : ((spec_odElements.f kj4 t380 9 2).bind fun t381 => (if x3_1.length + t381.length < 17592186044416 then (spec_OD39.l0 kj4 a0 (x3_1 ++ t381) (wrap64 (x4_1 + 1))) else (none))) = some r := H
                  have A21 := Aside0.mk A210
                  clear A210
                  replace H := Option.bind_eq_some_iff.mp H
                  obtain ⟨t381, A220, H⟩ := H
                  replace H : (if x3_1.length + t381.length < 17592186044416 then (spec_OD39.l0 kj4 a0 (x3_1 ++ t381) (wrap64 (x4_1 + 1))) else (none)) = some r := H
                  have A22 := Aside0.mk A220
                  clear A220
                  by_cases c23 : x3_1.length + t381.length < 17592186044416
                  · rw [if_pos c23] at H
                    have LMc23 := Aside0.mk c23
                    clear c23
                    obtain ⟨y384, hy384⟩ : ∃ y_ : List Int, y_ = (x3_1 ++ t381) := ⟨_, rfl⟩
                    replace H : (spec_OD39.l0 kj4 a0 y384 (wrap64 (x4_1 + 1))) = some r := by first | (rw [hy384]; with_reducible exact H) | (have H2_ := (Option.bind_some _ _).symm.trans H; rw [hy384]; with_reducible exact H2_) | (have H2_ := (Option.bind_some _ _).symm.trans H; with_reducible exact H2_) | with_reducible exact H | (rw [hy384]; exact H) | exact H
                    have Ny384 := Aside0.mk hy384
                    clear hy384
                    have H' := Aside0.mk H
                    clear H
                    go_wp2_with (first | ((with_reducible refine gate_callee (f := 47) rfl ?_); refine goesL_ (some 31) rfl rfl Tryz.func47 (by kernel_rfl) rfl #[.int .i64 x5_4] rfl (by (try simp only [List.map_toArray, List.map_cons, List.map_nil]); first | done | rfl | (simp only [List.length_drop, List.length_take]; rfl)) ?_; (with_reducible refine (spec_od39Bits.calls x5_4 t380 _ A21.out).mono ?_); rintro e w24 ⟨rfl, hb⟩; refine ⟨_, rfl, ?_⟩; have n0_ := Aside0.mk (Kd.R_below (by (with_reducible repeat (first | apply Kd.R_alloc | apply Kd.R_drewN | apply Kd.R_drew)); exact HO_3.out) hb); have n1_ := Aside0.mk (below_step (by repeat (first | (with_reducible first | exact HB.out | apply below_alloc | apply pw_below_drewN | apply below_drew1) | exact HB.out)) hb); clear HO_3; clear HB; have HO_3 := n0_; have HB := n1_; clear n0_ n1_; (try clear hb); (try clear hb2); (try clear hk); (try clear hi)) | ((with_reducible refine gate_callee (f := 36) rfl ?_); refine goesL_ (some 32) rfl rfl Tryz.func36 (by kernel_rfl) rfl #[.int .i64 t380, .int .i64 9, .int .i64 2] rfl (by (try simp only [List.map_toArray, List.map_cons, List.map_nil]); first | done | rfl | (simp only [List.length_drop, List.length_take]; rfl)) ?_; (with_reducible refine (spec_odElements.calls kj4 t380 9 2 t381 _ A22.out).mono ?_); rintro e w25 ⟨v382, rfl, ho0, hb⟩; refine ⟨_, rfl, ?_⟩; have n0_ := Aside0.mk (Kd.R_elder' (by (with_reducible repeat (first | apply Kd.R_alloc | apply Kd.R_drewN | apply Kd.R_drew)); exact HO_3.out) (Kd.R_base ho0) hb); have n1_ := Aside0.mk (Kd.R_lower (Kd.R_new' ho0 (Kd.R_lt (by (with_reducible repeat (first | apply Kd.R_alloc | apply Kd.R_drewN | apply Kd.R_drew)); exact HO_3.out))) (below_size (by repeat (first | (with_reducible first | exact HB.out | apply below_alloc | apply pw_below_drewN | apply below_drew1) | exact HB.out)))); have n2_ := Aside0.mk (below_step (by repeat (first | (with_reducible first | exact HB.out | apply below_alloc | apply pw_below_drewN | apply below_drew1) | exact HB.out)) hb); clear HO_3; clear HB; have HO_3 := n0_; have HO383 := n1_; have HB := n2_; clear n0_ n1_ n2_; (try clear hb); (try clear hb2); (try clear hk); (try clear hi); (try clear ho0); obtain ⟨Ao27, co27, eo27⟩ := Kd.R_slice HO383.out; subst eo27) | ((with_reducible refine gate_builtin (b := .append) (xs := #[.tmp 29, .tmp 32]) rfl ?_); (try (refine gate_guard (by rfl) ?_; dsimp only)); at_builtin; refine Kd.R_append_rows (Kd.int .i64) (w0 := w) w.heap.size rfl (.tmp 29) (.tmp 32) 40 3 (.int .i64 0) 8 rfl Tryz.underlying40 info3 rfl (by decide) (by omega) u3 x3_1 t381 _ _ _ (fun k_ => some k_ ≠ (.slice Ao27 t381.length co27 : Value).ownBlock) (fun _ => False) rfl rfl ?aO ?aR (fun _ _ h => h) (fun _ h => h.elim) ?aF ?aB ?aS ?aL ?_; (case aR => repeat (first | exact (Kd.R_reads' HO383.out).2.2 | (with_reducible refine Kd.C_alloc ?_ _) | (with_reducible refine Kd.C_drewN ?_ _) | (with_reducible refine Kd.C_drew ?_))); (case aB => exact (by repeat (first | (with_reducible first | exact HB.out | apply below_alloc | apply pw_below_drewN | apply below_drew1) | exact HB.out))); (case aF => exact (fun k_ hk => Kd.fresh' (Kd.R_lt (by (with_reducible repeat (first | apply Kd.R_alloc | apply Kd.R_drewN | apply Kd.R_drew)); exact HO383.out)) k_ hk)); (case aO => exact (by (with_reducible repeat (first | apply Kd.R_alloc | apply Kd.R_drewN | apply Kd.R_drew)); exact Kd.R_mono HO_3.out (fun _ hk => hk.2))); (case aS => exact (below_size (by repeat (first | (with_reducible first | exact HB.out | apply below_alloc | apply pw_below_drewN | apply below_drew1) | exact HB.out)))); (case aL => have := LMc23.out; omega); intro v385 w26 ho hb hg hat; rw [← Ny384.out] at ho; have n0_ := Aside0.mk (Kd.R_after (ok := (fun _ => True)) (by (with_reducible repeat (first | apply Kd.R_alloc | apply Kd.R_drewN | apply Kd.R_drew)); exact HO383.out) hg hat); have n1_ := Aside0.mk (hb); have n2_ := Aside0.mk (ho); clear HO383; clear HB; clear HO_3; have HO383 := n0_; have HB := n1_; have HO386 := n2_; clear n0_ n1_ n2_; clear ho hb hg hat))
                    go_roundg kj4
                    case measure => have := HK1.out; have := HJ2.out; have := HJ4.out; omega
                    case rel => exact ⟨(y384), (wrap64 (x4_1 + 1)), (by first | rfl | (simp; done) | (simp [*]; done)), H', ⟨by have := HK1.out; have := HJ2.out; have := HJ4.out; omega⟩, ⟨by (with_reducible repeat (first | apply Kd.R_alloc | apply Kd.R_drewN | apply Kd.R_drew)); exact Kd.R_mono HO386.out (fun _ hk => trivial)⟩, ⟨by repeat (first | (with_reducible first | exact HB.out | apply below_alloc | apply pw_below_drewN | apply below_drew1) | exact HB.out)⟩⟩
                  · rw [if_neg c23] at H
                    exact absurd H (by simp)
      · rw [if_neg c2] at H
        have c2b0 : decide (x4_1 ≤ (a0.size : Int)) = false := decide_eq_false c2
        clear c2
        replace H := Option.bind_eq_some_iff.mp H
        obtain ⟨t366, A280, H⟩ := H
        replace H : (some t366) = some r := H
        have A28 := Aside0.mk A280
        clear A280
        obtain rfl := Option.some.inj H
        obtain ⟨Ao29, co29, eo29⟩ := Kd.R_slice HO_3.out
        subst eo29
        go_wp2_with (first | ((with_reducible refine gate_callee (f := 38) rfl ?_); refine goesL_ (some 35) rfl rfl Tryz.func38 (by kernel_rfl) rfl #[.slice Ao29 x3_1.length co29] rfl (by (try simp only [List.map_toArray, List.map_cons, List.map_nil]); first | done | rfl | (simp only [List.length_drop, List.length_take]; rfl)) ?_; (with_reducible refine (spec_ODBars.calls k1 _ _ x3_1 t366 _ ?side1 ?side2 A28.out).mono ?_); (case side1 => repeat (first | exact (Kd.R_reads' HO_3.out).2.2 | (with_reducible refine Kd.C_alloc ?_ _) | (with_reducible refine Kd.C_drewN ?_ _) | (with_reducible refine Kd.C_drew ?_))); (case side2 => exact (Kd.R_reads' HO_3.out).2.1); rintro e w30 ⟨v367, rfl, ho0, hb⟩; refine ⟨_, rfl, ?_⟩; have n0_ := Aside0.mk (Kd.R_below (by (with_reducible repeat (first | apply Kd.R_alloc | apply Kd.R_drewN | apply Kd.R_drew)); exact HO_3.out) hb); have n1_ := Aside0.mk (Kd.R_lower ho0 (below_size (by repeat (first | (with_reducible first | exact HB.out | apply below_alloc | apply pw_below_drewN | apply below_drew1) | exact HB.out)))); have n2_ := Aside0.mk (below_step (by repeat (first | (with_reducible first | exact HB.out | apply below_alloc | apply pw_below_drewN | apply below_drew1) | exact HB.out)) hb); clear HO_3; clear HB; have HO_3 := n0_; have HO368 := n1_; have HB := n2_; clear n0_ n1_ n2_; (try clear hb); (try clear hb2); (try clear hk); (try clear hi); (try clear ho0)))
        go_ret
        exact ⟨_, by first | rfl | (simp [errW_none, errW_some] <;> rfl) | (simp [*, errW_none, errW_some] <;> rfl), by (with_reducible repeat (first | apply Kd.R_alloc | apply Kd.R_drewN | apply Kd.R_drew)); exact HO368.out, by repeat (first | (with_reducible first | exact HB.out | apply below_alloc | apply pw_below_drewN | apply below_drew1) | exact HB.out)⟩

-- NOT PRINTED: function 12 (laws_FnODWrites39)

-- NOT PRINTED: function 10 (laws_FnODUpcEWrite)

-- NOT PRINTED: function 8 (laws_FnODRefuses)

-- NOT PRINTED: function 100 (gozxing_newException)

-- NOT PRINTED: function 96 (gozxing_NewWriterException)

-- NOT PRINTED: function 113 (gozxing_wrapException)

-- NOT PRINTED: function 105 (gozxing_WrapWriterException)

end Go.Proofs.YthkddnmomjcdaaaGreat.F
