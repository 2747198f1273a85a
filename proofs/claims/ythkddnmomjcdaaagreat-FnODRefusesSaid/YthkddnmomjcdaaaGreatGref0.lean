import Derived.Test.YthkddnmomjcdaaaGreatF0
namespace Go.Proofs.YthkddnmomjcdaaaGreat.F
open Go.RowKit Go.Proofs.YthkddnmomjcdaaaGreatW.PrintWords Go.Proofs.YthkddnmomjcdaaaGreatW.PrintLast Go.Proofs.YthkddnmomjcdaaaGreatW.PrintMore
attribute [local go_sem] max2_int min2_int max_two min_two max_three min_three max_four min_four   -- for this text's walks alone
set_option linter.unusedVariables false
set_option linter.unusedSimpArgs false

/-! ### gozxing_BarcodeFormats_Contains: function 97 -/
def gozxing_BarcodeFormats_Contains.l0 : Nat → Int → List Int → Int → Int → Option (Bool)
  | 0, _, _, _, _ => none
  | k + 1, x1, x7, x8, x9 => if x9 < x8 then (if 0 ≤ x9 then (if x9 < (x7.length : Int) then (if (rd x7 x9) = x1 then (some true) else (gozxing_BarcodeFormats_Contains.l0 k x1 x7 x8 (wrap64 (x9 + 1)))) else (none)) else (none)) else (some false)
def gozxing_BarcodeFormats_Contains.f (k : Nat) (l0 : List Int) (a1 : Int) : Option (Bool) := gozxing_BarcodeFormats_Contains.l0 k a1 l0 (l0.length : Int) 0
theorem gozxing_BarcodeFormats_Contains.mono_l : ∀ k, (∀ y0 y1 y2 y3, LeO (gozxing_BarcodeFormats_Contains.l0 k y0 y1 y2 y3) (gozxing_BarcodeFormats_Contains.l0 (k + 1) y0 y1 y2 y3))
  | 0 => fun _ _ _ _ r h => by simp [gozxing_BarcodeFormats_Contains.l0] at h
  | k + 1 => by
    have ih0 := gozxing_BarcodeFormats_Contains.mono_l k
    · intro y0 y1 y2 y3
      unfold gozxing_BarcodeFormats_Contains.l0
      repeat' first
      | (with_reducible exact ih0 _ _ _ _)
      | (with_reducible exact LeO.refl _)
      | (with_reducible exact LeO.none _)
      | (with_reducible refine LeO.ite ?_ ?_)
      | (with_reducible refine LeO.bind ?_ (fun _ => ?_))
      | exact ih0 _ _ _ _
      | exact LeO.none _
      | refine LeO.ite ?_ ?_
      | refine LeO.bind ?_ (fun _ => ?_)
theorem gozxing_BarcodeFormats_Contains.mono : ∀ a0 a1 k, LeO (gozxing_BarcodeFormats_Contains.f k a0 a1) (gozxing_BarcodeFormats_Contains.f (k + 1) a0 a1) := by
  intro a0 a1 k
  have ih0 := gozxing_BarcodeFormats_Contains.mono_l k
  unfold gozxing_BarcodeFormats_Contains.f
  repeat' first
      | (with_reducible exact ih0 _ _ _ _)
      | (with_reducible exact LeO.refl _)
      | (with_reducible exact LeO.none _)
      | (with_reducible refine LeO.ite ?_ ?_)
      | (with_reducible refine LeO.bind ?_ (fun _ => ?_))
      | exact ih0 _ _ _ _
      | exact LeO.none _
      | refine LeO.ite ?_ ?_
      | refine LeO.bind ?_ (fun _ => ?_)
set_option maxHeartbeats 8000000 in
set_option maxRecDepth 100000 in
theorem gozxing_BarcodeFormats_Contains.calls (k : Nat) (A0 : Option Addr) (c0 : Nat) (l0 : List Int) (a1 : Int) (r : Bool) (w : World) (hr0 : Kd.C (Kd.int .i64) w A0 l0.length l0) (hc0 : l0.length ≤ c0) (h : gozxing_BarcodeFormats_Contains.f k l0 a1 = some r) :
    Calls Tryz.prog 97 #[.slice A0 l0.length c0, .int .i64 a1] w fun e w' => e = .returned (.bool r) ∧ Drawn0 w w' := by
  have HR0 := Aside0.mk hr0
  have HC0 := Aside0.mk hc0
  clear hr0 hc0
  have H : (gozxing_BarcodeFormats_Contains.l0 k a1 l0 (l0.length : Int) 0) = some r := h
  clear h
  have H' := Aside0.mk H
  clear H
  go_enter Tryz.func97, Tryz.ntmps97
  go_wp2
  go_loopg [9] k (fun kq v9 w' => ∃ (x9_1 : Int), v9 = .int .i64 x9_1 ∧ Aside0 (gozxing_BarcodeFormats_Contains.l0 kq a1 l0 (l0.length : Int) x9_1 = some r) ∧ Aside0 (kq ≤ k) ∧ Drawn0 w w')
  case atStart => exact ⟨(0), (by first | rfl | (simp; done) | (simp [*]; done)), H', ⟨Nat.le_refl _⟩, by repeat (first | exact Drawn0.refl _ | apply Drawn0.step)⟩
  case round =>
    clear H'
    try clear p2
    obtain ⟨x9_1, rfl, HA, HK1, ⟨m1, rfl⟩⟩ := hrel
    cases gk with
    | zero => exact absurd HA.out (by simp [gozxing_BarcodeFormats_Contains.l0])
    | succ k1 =>
      have H := HA.out
      clear HA
      simp only [gozxing_BarcodeFormats_Contains.l0] at H
      by_cases c3 : x9_1 < (l0.length : Int)
      · rw [if_pos c3] at H
        have c3b0 : decide (x9_1 < (l0.length : Int)) = true := decide_eq_true c3
        clear c3
        by_cases c4 : 0 ≤ x9_1
        · rw [if_pos c4] at H
          have c4b0 : decide (0 ≤ x9_1) = true := decide_eq_true c4
          clear c4
          by_cases c5 : x9_1 < (l0.length : Int)
          · rw [if_pos c5] at H
            have c5b0 : decide (x9_1 < (l0.length : Int)) = true := decide_eq_true c5
            clear c5
            by_cases c6 : (rd l0 x9_1) = a1
            · rw [if_pos c6] at H
              have c6b0 : ((rd l0 x9_1) == a1) = true := beq_iff_eq.mpr c6
              have c6b1 : ((rd l0 x9_1) != a1) = false := bne_eq_false_iff_eq.mpr c6
              clear c6
              obtain rfl := Option.some.inj H
              have p943 : 0 ≤ (x9_1 : Int) := of_decide_eq_true (by first | (with_reducible assumption) | assumption)
              have q943 : x9_1 < (l0.length : Int) := of_decide_eq_true (by first | (with_reducible assumption) | assumption)
              obtain ⟨ad943, e943, hx943_0⟩ := Kd.at_int HR0.out x9_1 p943 q943
              cases e943
              replace p943 := eq_true p943
              replace q943 := eq_true q943
              go_wp2
              go_ret
              exact ⟨by first | rfl | (simp; done) | (simp [*]; done), by repeat (first | exact Drawn0.refl _ | apply Drawn0.step)⟩
            · rw [if_neg c6] at H
              have c6b0 : ((rd l0 x9_1) == a1) = false := beq_eq_false_iff_ne.mpr c6
              have c6b1 : ((rd l0 x9_1) != a1) = true := bne_iff_ne.mpr c6
              have H' := Aside0.mk H
              clear H
              have p943 : 0 ≤ (x9_1 : Int) := of_decide_eq_true (by first | (with_reducible assumption) | assumption)
              have q943 : x9_1 < (l0.length : Int) := of_decide_eq_true (by first | (with_reducible assumption) | assumption)
              obtain ⟨ad943, e943, hx943_0⟩ := Kd.at_int HR0.out x9_1 p943 q943
              cases e943
              replace p943 := eq_true p943
              replace q943 := eq_true q943
              go_wp2
              go_roundg k1
              case measure => have := HK1.out; omega
              case rel => exact ⟨(wrap64 (x9_1 + 1)), (by first | rfl | (simp; done) | (simp [*]; done)), H', ⟨by have := HK1.out; omega⟩, by repeat (first | exact Drawn0.refl _ | apply Drawn0.step)⟩
          · rw [if_neg c5] at H
            exact absurd H (by simp)
        · rw [if_neg c4] at H
          exact absurd H (by simp)
      · rw [if_neg c3] at H
        have c3b0 : decide (x9_1 < (l0.length : Int)) = false := decide_eq_false c3
        clear c3
        obtain rfl := Option.some.inj H
        go_wp2
        go_ret
        exact ⟨by first | rfl | (simp; done) | (simp [*]; done), by repeat (first | exact Drawn0.refl _ | apply Drawn0.step)⟩

/-- THE ONE PURE STATEMENT of gozxing_BarcodeFormats_Contains: yours. -/
def gozxing_BarcodeFormats_Contains.Pure : Prop := ∀ (l0 : List Int) (a1 : Int), l0.length ≤ maxLen → l0.length * 8 ≤ 140737488351232 → (∀ x ∈ l0, (Lit.int .i64 x).wf = true) → (Lit.int .i64 a1).wf = true → ∃ k, gozxing_BarcodeFormats_Contains.f k l0 a1 = some true
theorem gozxing_BarcodeFormats_Contains.walk (P : gozxing_BarcodeFormats_Contains.Pure) (a0 : Option Addr) (len0 cap0 : Nat) (z0 : List Int) (a1 : Int) (w : World) (w0 : (a0 = none ∧ len0 = 0 ∧ cap0 = 0 ∧ z0 = []) ∨ ∃ x, a0 = some x ∧ len0 ≤ cap0 ∧ cap0 ≤ maxLen ∧ z0.length = cap0 ∧ (∀ i, i < z0.length → w.cell? (x.add i) = some (.int .i64 (z0.getD i 0))) ∧ ∀ n ∈ z0, (Lit.int .i64 n).wf = true) (y0 : len0 * 8 ≤ 140737488351232) (w1 : (Lit.int .i64 a1).wf = true) :
    Calls Tryz.prog 97 #[.slice a0 len0 cap0, .int .i64 a1] w fun e w' => e = .returned (.bool true) ∧ Below w.heap.size w w' := by
  obtain ⟨l0, rfl, hr0, hm0, hw0, hc0⟩ := ReadsInt.ofRowC w0
  obtain ⟨k, h⟩ := P l0 a1 hm0 y0 hw0 w1
  refine (gozxing_BarcodeFormats_Contains.calls k _ _ l0 a1 true w (Kd.C_of_reads (d := (0 : Int)) (h1 := fun _ => rfl) hr0) hc0 h).mono ?_
  rintro e w' ⟨rfl, hd⟩
  exact ⟨rfl, hd.below⟩

/-! ### spec_BISameBits: function 16 -/
def spec_BISameBits.l0 : Nat → List Bool → List Bool → Int → Option (Bool)
  | 0, _, _, _ => none
  | k + 1, x0, x1, x5 => if x5 < (x0.length : Int) then (if 0 ≤ x5 then (if x5 < (x1.length : Int) then (if ((rdOf false x0 x5) != (rdOf false x1 x5)) = true then (some false) else (spec_BISameBits.l0 k x0 x1 (wrap64 (x5 + 1)))) else (none)) else (none)) else (some true)
def spec_BISameBits.f (k : Nat) (l0 : List Bool) (l1 : List Bool) : Option (Bool) := if (l0.length : Int) = (l1.length : Int) then (spec_BISameBits.l0 k l0 l1 0) else (some false)
theorem spec_BISameBits.mono_l : ∀ k, (∀ y0 y1 y2, LeO (spec_BISameBits.l0 k y0 y1 y2) (spec_BISameBits.l0 (k + 1) y0 y1 y2))
  | 0 => fun _ _ _ r h => by simp [spec_BISameBits.l0] at h
  | k + 1 => by
    have ih0 := spec_BISameBits.mono_l k
    · intro y0 y1 y2
      unfold spec_BISameBits.l0
      repeat' first
      | (with_reducible exact ih0 _ _ _)
      | (with_reducible exact LeO.refl _)
      | (with_reducible exact LeO.none _)
      | (with_reducible refine LeO.ite ?_ ?_)
      | (with_reducible refine LeO.bind ?_ (fun _ => ?_))
      | exact ih0 _ _ _
      | exact LeO.none _
      | refine LeO.ite ?_ ?_
      | refine LeO.bind ?_ (fun _ => ?_)
theorem spec_BISameBits.mono : ∀ a0 a1 k, LeO (spec_BISameBits.f k a0 a1) (spec_BISameBits.f (k + 1) a0 a1) := by
  intro a0 a1 k
  have ih0 := spec_BISameBits.mono_l k
  unfold spec_BISameBits.f
  repeat' first
      | (with_reducible exact ih0 _ _ _)
      | (with_reducible exact LeO.refl _)
      | (with_reducible exact LeO.none _)
      | (with_reducible refine LeO.ite ?_ ?_)
      | (with_reducible refine LeO.bind ?_ (fun _ => ?_))
      | exact ih0 _ _ _
      | exact LeO.none _
      | refine LeO.ite ?_ ?_
      | refine LeO.bind ?_ (fun _ => ?_)
set_option maxHeartbeats 8000000 in
set_option maxRecDepth 100000 in
theorem spec_BISameBits.calls (k : Nat) (A0 : Option Addr) (c0 : Nat) (l0 : List Bool) (A1 : Option Addr) (c1 : Nat) (l1 : List Bool) (r : Bool) (w : World) (hr0 : Kd.C Kd.bool w A0 l0.length l0) (hc0 : l0.length ≤ c0) (hr1 : Kd.C Kd.bool w A1 l1.length l1) (hc1 : l1.length ≤ c1) (h : spec_BISameBits.f k l0 l1 = some r) :
    Calls Tryz.prog 16 #[.slice A0 l0.length c0, .slice A1 l1.length c1] w fun e w' => e = .returned (.bool r) ∧ Drawn0 w w' := by
  have HR0 := Aside0.mk hr0
  have HC0 := Aside0.mk hc0
  clear hr0 hc0
  have HR1 := Aside0.mk hr1
  have HC1 := Aside0.mk hc1
  clear hr1 hc1
  have H : (if (l0.length : Int) = (l1.length : Int) then (spec_BISameBits.l0 k l0 l1 0) else (some false)) = some r := h
  clear h
  by_cases c3 : (l0.length : Int) = (l1.length : Int)
  · rw [if_pos c3] at H
    have c3b0 : ((l0.length : Int) == (l1.length : Int)) = true := beq_iff_eq.mpr c3
    have c3b1 : ((l0.length : Int) != (l1.length : Int)) = false := bne_eq_false_iff_eq.mpr c3
    have c3b2 : (l0.length == l1.length) = true := by first | simpa using c3 | (simp at c3 ⊢; omega)
    clear c3
    have H' := Aside0.mk H
    clear H
    go_enter Tryz.func16, Tryz.ntmps16
    go_wp2
    repeat (go_quiet (fail); try go_wp2)
    go_loopg [5] k (fun kq v5 w' => ∃ (x5_1 : Int), v5 = .int .i64 x5_1 ∧ Aside0 (spec_BISameBits.l0 kq l0 l1 x5_1 = some r) ∧ Aside0 (kq ≤ k) ∧ Drawn0 w w')
    case atStart => exact ⟨(0), (by first | rfl | (simp; done) | (simp [*]; done)), H', ⟨Nat.le_refl _⟩, by repeat (first | exact Drawn0.refl _ | apply Drawn0.step)⟩
    case round =>
      clear H'
      try clear c1
      try clear p2
      try clear c3
      try clear c3b0
      try clear c3b1
      try clear c3b2
      obtain ⟨x5_1, rfl, HA, HK1, ⟨m1, rfl⟩⟩ := hrel
      cases gk with
      | zero => exact absurd HA.out (by simp [spec_BISameBits.l0])
      | succ k1 =>
        have H := HA.out
        clear HA
        simp only [spec_BISameBits.l0] at H
        by_cases c4 : x5_1 < (l0.length : Int)
        · rw [if_pos c4] at H
          have c4b0 : decide (x5_1 < (l0.length : Int)) = true := decide_eq_true c4
          clear c4
          by_cases c5 : 0 ≤ x5_1
          · rw [if_pos c5] at H
            have c5b0 : decide (0 ≤ x5_1) = true := decide_eq_true c5
            clear c5
            by_cases c6 : x5_1 < (l1.length : Int)
            · rw [if_pos c6] at H
              have c6b0 : decide (x5_1 < (l1.length : Int)) = true := decide_eq_true c6
              clear c6
              by_cases c7 : ((rdOf false l0 x5_1) != (rdOf false l1 x5_1)) = true
              · rw [if_pos c7] at H
                have c7b0 : ((rdOf false l0 x5_1) != (rdOf false l1 x5_1)) = true := c7
                (try (have c7b1 : decide ((rdOf false l0 x5_1) = (rdOf false l1 x5_1)) = false := by simpa using c7))
                (try (have c7b2 : ((rdOf false l0 x5_1) == (rdOf false l1 x5_1)) = false := by simpa using c7))
                (try (have c7b3 : ¬ ((rdOf false l0 x5_1) = (rdOf false l1 x5_1)) := by simpa using c7))
                clear c7
                obtain rfl := Option.some.inj H
                have p121 : 0 ≤ (x5_1 : Int) := of_decide_eq_true (by first | (with_reducible assumption) | assumption)
                have q121 : x5_1 < (l0.length : Int) := of_decide_eq_true (by first | (with_reducible assumption) | assumption)
                obtain ⟨ad121, e121, hx121_0⟩ := Kd.at_bool HR0.out x5_1 p121 q121
                cases e121
                replace p121 := eq_true p121
                replace q121 := eq_true q121
                have p122 : 0 ≤ (x5_1 : Int) := of_decide_eq_true (by first | (with_reducible assumption) | assumption)
                have q122 : x5_1 < (l1.length : Int) := of_decide_eq_true (by first | (with_reducible assumption) | assumption)
                obtain ⟨ad122, e122, hx122_0⟩ := Kd.at_bool HR1.out x5_1 p122 q122
                cases e122
                replace p122 := eq_true p122
                replace q122 := eq_true q122
                go_wp2
                repeat (go_quiet (fail); try go_wp2)
                go_ret
                exact ⟨by first | rfl | (simp; done) | (simp [*]; done), by repeat (first | exact Drawn0.refl _ | apply Drawn0.step)⟩
              · rw [if_neg c7] at H
                have c7b0 : ((rdOf false l0 x5_1) != (rdOf false l1 x5_1)) = false := by simpa using c7
                (try (have c7b1 : decide ((rdOf false l0 x5_1) = (rdOf false l1 x5_1)) = true := by simpa using c7))
                (try (have c7b2 : ((rdOf false l0 x5_1) == (rdOf false l1 x5_1)) = true := by simpa using c7))
                clear c7
                have H' := Aside0.mk H
                clear H
                have p121 : 0 ≤ (x5_1 : Int) := of_decide_eq_true (by first | (with_reducible assumption) | assumption)
                have q121 : x5_1 < (l0.length : Int) := of_decide_eq_true (by first | (with_reducible assumption) | assumption)
                obtain ⟨ad121, e121, hx121_0⟩ := Kd.at_bool HR0.out x5_1 p121 q121
                cases e121
                replace p121 := eq_true p121
                replace q121 := eq_true q121
                have p122 : 0 ≤ (x5_1 : Int) := of_decide_eq_true (by first | (with_reducible assumption) | assumption)
                have q122 : x5_1 < (l1.length : Int) := of_decide_eq_true (by first | (with_reducible assumption) | assumption)
                obtain ⟨ad122, e122, hx122_0⟩ := Kd.at_bool HR1.out x5_1 p122 q122
                cases e122
                replace p122 := eq_true p122
                replace q122 := eq_true q122
                go_wp2
                repeat (go_quiet (fail); try go_wp2)
                go_roundg k1
                case measure => have := HK1.out; omega
                case rel => exact ⟨(wrap64 (x5_1 + 1)), (by first | rfl | (simp; done) | (simp [*]; done)), H', ⟨by have := HK1.out; omega⟩, by repeat (first | exact Drawn0.refl _ | apply Drawn0.step)⟩
            · rw [if_neg c6] at H
              exact absurd H (by simp)
          · rw [if_neg c5] at H
            exact absurd H (by simp)
        · rw [if_neg c4] at H
          have c4b0 : decide (x5_1 < (l0.length : Int)) = false := decide_eq_false c4
          clear c4
          obtain rfl := Option.some.inj H
          go_wp2
          repeat (go_quiet (fail); try go_wp2)
          go_ret
          exact ⟨by first | rfl | (simp; done) | (simp [*]; done), by repeat (first | exact Drawn0.refl _ | apply Drawn0.step)⟩
  · rw [if_neg c3] at H
    have c3b0 : ((l0.length : Int) == (l1.length : Int)) = false := beq_eq_false_iff_ne.mpr c3
    have c3b1 : ((l0.length : Int) != (l1.length : Int)) = true := bne_iff_ne.mpr c3
    have c3b2 : (l0.length == l1.length) = false := by first | simpa using c3 | (simp at c3 ⊢; omega)
    obtain rfl := Option.some.inj H
    go_enter Tryz.func16, Tryz.ntmps16
    go_wp2
    repeat (go_quiet (fail); try go_wp2)
    go_ret
    exact ⟨by first | rfl | (simp; done) | (simp [*]; done), by repeat (first | exact Drawn0.refl _ | apply Drawn0.step)⟩

/-! ### spec_ODRow: function 17 -/
mutual
def spec_ODRow.l0 : Nat → List Bool → List Bool → Int → Int → Int → Option (List Bool)
  | 0, _, _, _, _, _ => none
  | k + 1, x0, x9, x10, x11, x12 => if x12 < (x0.length : Int) then (spec_ODRow.l1 k x0 x9 x10 x11 x12 0) else (some x9)
def spec_ODRow.l1 : Nat → List Bool → List Bool → Int → Int → Int → Int → Option (List Bool)
  | 0, _, _, _, _, _, _ => none
  | k + 1, x0, x9, x10, x11, x12, x13 => if x13 < x10 then (if 0 ≤ x12 then (if x12 < (x0.length : Int) then (if 0 ≤ (wrap64 ((wrap64 (x11 + (wrap64 (x12 * x10)))) + x13)) then (if (wrap64 ((wrap64 (x11 + (wrap64 (x12 * x10)))) + x13)) < (x9.length : Int) then (spec_ODRow.l1 k x0 (x9.set ((wrap64 ((wrap64 (x11 + (wrap64 (x12 * x10)))) + x13)) : Int).toNat (rdOf false x0 x12)) x10 x11 x12 (wrap64 (x13 + 1))) else (none)) else (none)) else (none)) else (none)) else (spec_ODRow.l0 k x0 x9 x10 x11 (wrap64 (x12 + 1)))
end
def spec_ODRow.f (k : Nat) (l0 : List Bool) (a1 : Int) (a2 : Int) : Option (List Bool) := if 0 ≤ (mx a1 (wrap64 ((l0.length : Int) + a2))) then (if (mx a1 (wrap64 ((l0.length : Int) + a2)) : Int).toNat ≤ 281474976710656 then (if (wrap64 ((l0.length : Int) + a2)) = 0 then (none) else (spec_ODRow.l0 k l0 (List.replicate (mx a1 (wrap64 ((l0.length : Int) + a2)) : Int).toNat false) (wrap64 (Int.tdiv (mx a1 (wrap64 ((l0.length : Int) + a2))) (wrap64 ((l0.length : Int) + a2)))) (wrap64 (Int.tdiv (wrap64 ((mx a1 (wrap64 ((l0.length : Int) + a2))) - (wrap64 ((l0.length : Int) * (wrap64 (Int.tdiv (mx a1 (wrap64 ((l0.length : Int) + a2))) (wrap64 ((l0.length : Int) + a2)))))))) 2)) 0)) else (none)) else (none)
theorem spec_ODRow.mono_l : ∀ k, (∀ y0 y1 y2 y3 y4, LeO (spec_ODRow.l0 k y0 y1 y2 y3 y4) (spec_ODRow.l0 (k + 1) y0 y1 y2 y3 y4)) ∧ (∀ y0 y1 y2 y3 y4 y5, LeO (spec_ODRow.l1 k y0 y1 y2 y3 y4 y5) (spec_ODRow.l1 (k + 1) y0 y1 y2 y3 y4 y5))
  | 0 => ⟨fun _ _ _ _ _ r h => by simp [spec_ODRow.l0] at h, fun _ _ _ _ _ _ r h => by simp [spec_ODRow.l1] at h⟩
  | k + 1 => by
    obtain ⟨ih0, ih1⟩ := spec_ODRow.mono_l k
    refine ⟨?_, ?_⟩
    · intro y0 y1 y2 y3 y4
      unfold spec_ODRow.l0
      repeat' first
      | (with_reducible exact ih0 _ _ _ _ _)
      | (with_reducible exact ih1 _ _ _ _ _ _)
      | (with_reducible exact LeO.refl _)
      | (with_reducible exact LeO.none _)
      | (with_reducible refine LeO.ite ?_ ?_)
      | (with_reducible refine LeO.bind ?_ (fun _ => ?_))
      | exact ih0 _ _ _ _ _
      | exact ih1 _ _ _ _ _ _
      | exact LeO.none _
      | refine LeO.ite ?_ ?_
      | refine LeO.bind ?_ (fun _ => ?_)
    · intro y0 y1 y2 y3 y4 y5
      unfold spec_ODRow.l1
      repeat' first
      | (with_reducible exact ih0 _ _ _ _ _)
      | (with_reducible exact ih1 _ _ _ _ _ _)
      | (with_reducible exact LeO.refl _)
      | (with_reducible exact LeO.none _)
      | (with_reducible refine LeO.ite ?_ ?_)
      | (with_reducible refine LeO.bind ?_ (fun _ => ?_))
      | exact ih0 _ _ _ _ _
      | exact ih1 _ _ _ _ _ _
      | exact LeO.none _
      | refine LeO.ite ?_ ?_
      | refine LeO.bind ?_ (fun _ => ?_)
theorem spec_ODRow.mono : ∀ a0 a1 a2 k, LeO (spec_ODRow.f k a0 a1 a2) (spec_ODRow.f (k + 1) a0 a1 a2) := by
  intro a0 a1 a2 k
  obtain ⟨ih0, ih1⟩ := spec_ODRow.mono_l k
  unfold spec_ODRow.f
  repeat' first
      | (with_reducible exact ih0 _ _ _ _ _)
      | (with_reducible exact ih1 _ _ _ _ _ _)
      | (with_reducible exact LeO.refl _)
      | (with_reducible exact LeO.none _)
      | (with_reducible refine LeO.ite ?_ ?_)
      | (with_reducible refine LeO.bind ?_ (fun _ => ?_))
      | exact ih0 _ _ _ _ _
      | exact ih1 _ _ _ _ _ _
      | exact LeO.none _
      | refine LeO.ite ?_ ?_
      | refine LeO.bind ?_ (fun _ => ?_)
set_option maxHeartbeats 8000000 in
set_option maxRecDepth 100000 in
theorem spec_ODRow.calls (k : Nat) (A0 : Option Addr) (c0 : Nat) (l0 : List Bool) (a1 : Int) (a2 : Int) (r : List Bool) (w : World) (hr0 : Kd.C Kd.bool w A0 l0.length l0) (hc0 : l0.length ≤ c0) (h : spec_ODRow.f k l0 a1 a2 = some r) :
    Calls Tryz.prog 17 #[.slice A0 l0.length c0, .int .i64 a1, .int .i64 a2] w fun e w' => ∃ v0_ : Value, e = .returned (v0_) ∧ Kd.R Kd.bool 4 w' w.heap.size (fun _ => True) v0_ r ∧ Below w.heap.size w w' := by
  have HR0 := Aside0.mk hr0
  have HC0 := Aside0.mk hc0
  clear hr0 hc0
  have HB := Aside0.mk (Below.refl w.heap.size w)
  have H : (if 0 ≤ (mx a1 (wrap64 ((l0.length : Int) + a2))) then (if (mx a1 (wrap64 ((l0.length : Int) + a2)) : Int).toNat ≤ 281474976710656 then (if (wrap64 ((l0.length : Int) + a2)) = 0 then (none) else (spec_ODRow.l0 k l0 (List.replicate (mx a1 (wrap64 ((l0.length : Int) + a2)) : Int).toNat false) (wrap64 (Int.tdiv (mx a1 (wrap64 ((l0.length : Int) + a2))) (wrap64 ((l0.length : Int) + a2)))) (wrap64 (Int.tdiv (wrap64 ((mx a1 (wrap64 ((l0.length : Int) + a2))) - (wrap64 ((l0.length : Int) * (wrap64 (Int.tdiv (mx a1 (wrap64 ((l0.length : Int) + a2))) (wrap64 ((l0.length : Int) + a2)))))))) 2)) 0)) else (none)) else (none)) = some r := h
  clear h
  obtain ⟨ji4, hji4⟩ : ∃ j_ : Int, (mx a1 (wrap64 ((l0.length : Int) + a2))) = j_ := ⟨_, rfl⟩
  replace H : (if 0 ≤ (ji4) then (if (ji4 : Int).toNat ≤ 281474976710656 then (if (wrap64 ((l0.length : Int) + a2)) = 0 then (none) else (spec_ODRow.l0 k l0 (List.replicate (ji4 : Int).toNat false) (wrap64 (Int.tdiv (ji4) (wrap64 ((l0.length : Int) + a2)))) (wrap64 (Int.tdiv (wrap64 ((ji4) - (wrap64 ((l0.length : Int) * (wrap64 (Int.tdiv (ji4) (wrap64 ((l0.length : Int) + a2)))))))) 2)) 0)) else (none)) else (none)) = some r := by first | (rw [hji4] at H; exact H) | (simp only [hji4] at H ⊢; exact H)
  have hji4_ : (if a1 < (wrap64 ((l0.length : Int) + a2)) then (wrap64 ((l0.length : Int) + a2)) else a1) = ji4 := hji4
  by_cases c5 : 0 ≤ (ji4)
  · rw [if_pos c5] at H
    have c5b0 := eq_true c5
    have c5b1 : decide (0 ≤ (ji4)) = true := decide_eq_true c5
    clear c5
    by_cases c6 : (ji4 : Int).toNat ≤ 281474976710656
    · rw [if_pos c6] at H
      have c6b0 := eq_true c6
      have c6b1 : decide ((ji4 : Int).toNat ≤ 281474976710656) = true := decide_eq_true c6
      clear c6
      obtain ⟨y123, hy123⟩ : ∃ y_ : List Bool, y_ = (List.replicate (ji4 : Int).toNat false) := ⟨_, rfl⟩
      replace H : (if (wrap64 ((l0.length : Int) + a2)) = 0 then (none) else (spec_ODRow.l0 k l0 y123 (wrap64 (Int.tdiv (ji4) (wrap64 ((l0.length : Int) + a2)))) (wrap64 (Int.tdiv (wrap64 ((ji4) - (wrap64 ((l0.length : Int) * (wrap64 (Int.tdiv (ji4) (wrap64 ((l0.length : Int) + a2)))))))) 2)) 0)) = some r := by first | (rw [hy123]; with_reducible exact H) | (have H2_ := (Option.bind_some _ _).symm.trans H; rw [hy123]; with_reducible exact H2_) | (have H2_ := (Option.bind_some _ _).symm.trans H; with_reducible exact H2_) | with_reducible exact H | (rw [hy123]; exact H) | exact H
      have Ny123 := Aside0.mk hy123
      clear hy123
      by_cases c7 : (wrap64 ((l0.length : Int) + a2)) = 0
      · rw [if_pos c7] at H
        exact absurd H (by simp)
      · rw [if_neg c7] at H
        have c7b0 : ((wrap64 ((l0.length : Int) + a2)) == 0) = false := beq_eq_false_iff_ne.mpr c7
        have c7b1 : ((wrap64 ((l0.length : Int) + a2)) != 0) = true := bne_iff_ne.mpr c7
        have H' := Aside0.mk H
        clear H
        go_enter Tryz.func17, Tryz.ntmps17
        go_wp2_with (first | ((with_reducible refine gate_dst (N := 22) rfl ?_); refine Kd.R_make Kd.bool _ 4 rfl (N := 22) rfl 27 _ _ rfl ji4 rfl rfl Tryz.underlying27 (.bool false) 1 info4 rfl (by decide) (by omega) false (ok := fun _ => True) (okp := fun _ => True) rfl (fun _ hk => hk) trivial (of_decide_eq_true (by first | (with_reducible assumption) | assumption)) (Nat.le_trans (Nat.mul_le_mul_right _ (of_decide_eq_true (by first | (with_reducible assumption) | assumption) : ji4.toNat ≤ 281474976710656)) (by omega)) (Below.refl _ _) (Nat.le_refl _) ?_; intro v124 w8 ho9 hb hg_ hnew_; clear hg_ hnew_; (first | rw [← Ny123.out] at ho9 | (simp only [Int.reduceToNat] at ho9; rw [← Ny123.out] at ho9)); have n0_ := Aside0.mk (Kd.R_lower ho9 (below_size (by repeat (first | (with_reducible first | exact HB.out | apply below_alloc | apply pw_below_drewN | apply below_drew1) | exact HB.out)))); have n1_ := Aside0.mk (below_step (by repeat (first | (with_reducible first | exact HB.out | apply below_alloc | apply pw_below_drewN | apply below_drew1) | exact HB.out)) hb); clear HB; have HO125 := n0_; have HB := n1_; clear n0_ n1_; clear hb ho9))
        go_loopg [12] k (fun kq v12 w' => ∃ (x9_1 : List Bool) (x12_1 : Int), v12 = .int .i64 x12_1 ∧ Aside0 (spec_ODRow.l0 kq l0 x9_1 (wrap64 (Int.tdiv (ji4) (wrap64 ((l0.length : Int) + a2)))) (wrap64 (Int.tdiv (wrap64 ((ji4) - (wrap64 ((l0.length : Int) * (wrap64 (Int.tdiv (ji4) (wrap64 ((l0.length : Int) + a2)))))))) 2)) x12_1 = some r) ∧ Aside0 (kq ≤ k) ∧ Aside0 (Kd.R Kd.bool 4 w' w.heap.size (fun _ => True) v124 x9_1) ∧ Aside0 (Below w.heap.size w w'))
        case atStart => exact ⟨(y123), (0), (by first | rfl | (simp; done) | (simp [*]; done)), H', ⟨Nat.le_refl _⟩, ⟨by (with_reducible repeat (first | apply Kd.R_alloc | apply Kd.R_drewN | apply Kd.R_drew)); exact HO125.out⟩, ⟨by repeat (first | (with_reducible first | exact HB.out | apply below_alloc | apply pw_below_drewN | apply below_drew1) | exact HB.out)⟩⟩
        case round =>
          clear H'
          try clear c1
          try clear p2
          try clear c5
          try clear c5b0
          try clear c5b1
          try clear c6
          try clear c6b0
          try clear c6b1
          try clear p6
          try clear c7
          try clear c7b0
          try clear c7b1
          obtain ⟨x9_1, x12_1, rfl, HA, HK1, HO_9, HB⟩ := hrel
          cases gk with
          | zero => exact absurd HA.out (by simp [spec_ODRow.l0])
          | succ k1 =>
            have H := HA.out
            clear HA
            simp only [spec_ODRow.l0] at H
            by_cases c10 : x12_1 < (l0.length : Int)
            · rw [if_pos c10] at H
              have c10b0 : decide (x12_1 < (l0.length : Int)) = true := decide_eq_true c10
              clear c10
              have H' := Aside0.mk H
              clear H
              go_wp2
              go_loopg [13] k1 (fun kq v13 w' => ∃ (x9_2 : List Bool) (x13_2 : Int), v13 = .int .i64 x13_2 ∧ Aside0 (spec_ODRow.l1 kq l0 x9_2 (wrap64 (Int.tdiv (ji4) (wrap64 ((l0.length : Int) + a2)))) (wrap64 (Int.tdiv (wrap64 ((ji4) - (wrap64 ((l0.length : Int) * (wrap64 (Int.tdiv (ji4) (wrap64 ((l0.length : Int) + a2)))))))) 2)) x12_1 x13_2 = some r) ∧ Aside0 (kq ≤ k1) ∧ Aside0 (Kd.R Kd.bool 4 w' w.heap.size (fun _ => True) v124 x9_2) ∧ Aside0 (Below w.heap.size w w'))
              case atStart => exact ⟨(x9_1), (0), (by first | rfl | (simp; done) | (simp [*]; done)), H', ⟨Nat.le_refl _⟩, ⟨by (with_reducible repeat (first | apply Kd.R_alloc | apply Kd.R_drewN | apply Kd.R_drew)); exact HO_9.out⟩, ⟨by repeat (first | (with_reducible first | exact HB.out | apply below_alloc | apply pw_below_drewN | apply below_drew1) | exact HB.out)⟩⟩
              case round =>
                clear H'
                try clear c1
                try clear p2
                try clear c5
                try clear c5b0
                try clear c5b1
                try clear c6
                try clear c6b0
                try clear c6b1
                try clear p6
                try clear c7
                try clear c7b0
                try clear c7b1
                try clear c10
                try clear c10b0
                try clear p2
                try clear p6
                obtain ⟨x9_2, x13_2, rfl, HA, HK2, HO_9, HB⟩ := hrel
                cases gk with
                | zero => exact absurd HA.out (by simp [spec_ODRow.l1])
                | succ k2 =>
                  have H := HA.out
                  clear HA
                  simp only [spec_ODRow.l1] at H
                  by_cases c11 : x13_2 < (wrap64 (Int.tdiv (ji4) (wrap64 ((l0.length : Int) + a2))))
                  · rw [if_pos c11] at H
                    have c11b0 : decide (x13_2 < (wrap64 (Int.tdiv (ji4) (wrap64 ((l0.length : Int) + a2))))) = true := decide_eq_true c11
                    clear c11
                    by_cases c12 : 0 ≤ x12_1
                    · rw [if_pos c12] at H
                      have c12b0 : decide (0 ≤ x12_1) = true := decide_eq_true c12
                      clear c12
                      by_cases c13 : x12_1 < (l0.length : Int)
                      · rw [if_pos c13] at H
                        have c13b0 : decide (x12_1 < (l0.length : Int)) = true := decide_eq_true c13
                        clear c13
                        obtain ⟨ji14, hji14⟩ : ∃ j_ : Int, (wrap64 ((wrap64 ((wrap64 (Int.tdiv (wrap64 ((ji4) - (wrap64 ((l0.length : Int) * (wrap64 (Int.tdiv (ji4) (wrap64 ((l0.length : Int) + a2)))))))) 2)) + (wrap64 (x12_1 * (wrap64 (Int.tdiv (ji4) (wrap64 ((l0.length : Int) + a2)))))))) + x13_2)) = j_ := ⟨_, rfl⟩
                        replace H : (if 0 ≤ (ji14) then (if (ji14) < (x9_2.length : Int) then (spec_ODRow.l1 k2 l0 (x9_2.set ((ji14) : Int).toNat (rdOf false l0 x12_1)) (wrap64 (Int.tdiv (ji4) (wrap64 ((l0.length : Int) + a2)))) (wrap64 (Int.tdiv (wrap64 ((ji4) - (wrap64 ((l0.length : Int) * (wrap64 (Int.tdiv (ji4) (wrap64 ((l0.length : Int) + a2)))))))) 2)) x12_1 (wrap64 (x13_2 + 1))) else (none)) else (none)) = some r := by first | (rw [hji14] at H; exact H) | (simp only [hji14] at H ⊢; exact H)
                        have hji14w : (IntKind.i64.wrap ((wrap64 ((wrap64 (Int.tdiv (wrap64 ((ji4) - (wrap64 ((l0.length : Int) * (wrap64 (Int.tdiv (ji4) (wrap64 ((l0.length : Int) + a2)))))))) 2)) + (wrap64 (x12_1 * (wrap64 (Int.tdiv (ji4) (wrap64 ((l0.length : Int) + a2)))))))) + x13_2)) = ji14 := (i64_w _).trans hji14
                        by_cases c15 : 0 ≤ (ji14)
                        · rw [if_pos c15] at H
                          have c15b0 : decide (0 ≤ (ji14)) = true := decide_eq_true c15
                          clear c15
                          by_cases c16 : (ji14) < (x9_2.length : Int)
                          · rw [if_pos c16] at H
                            have c16b0 : decide ((ji14) < (x9_2.length : Int)) = true := decide_eq_true c16
                            clear c16
                            obtain ⟨y127, hy127⟩ : ∃ y_ : List Bool, y_ = (x9_2.set ((ji14) : Int).toNat (rdOf false l0 x12_1)) := ⟨_, rfl⟩
                            replace H : (spec_ODRow.l1 k2 l0 y127 (wrap64 (Int.tdiv (ji4) (wrap64 ((l0.length : Int) + a2)))) (wrap64 (Int.tdiv (wrap64 ((ji4) - (wrap64 ((l0.length : Int) * (wrap64 (Int.tdiv (ji4) (wrap64 ((l0.length : Int) + a2)))))))) 2)) x12_1 (wrap64 (x13_2 + 1))) = some r := by first | (rw [hy127]; with_reducible exact H) | (have H2_ := (Option.bind_some _ _).symm.trans H; rw [hy127]; with_reducible exact H2_) | (have H2_ := (Option.bind_some _ _).symm.trans H; with_reducible exact H2_) | with_reducible exact H | (rw [hy127]; exact H) | exact H
                            have Ny127 := Aside0.mk hy127
                            clear hy127
                            have H' := Aside0.mk H
                            clear H
                            have p126 : 0 ≤ (x12_1 : Int) := of_decide_eq_true (by first | (with_reducible assumption) | assumption)
                            have q126 : x12_1 < (l0.length : Int) := of_decide_eq_true (by first | (with_reducible assumption) | assumption)
                            obtain ⟨ad126, e126, hx126_0⟩ := Kd.at_bool HR0.out x12_1 p126 q126
                            cases e126
                            replace hx126_0 := (HB.out.cell (World.block_lt_of_cell? w _ hx126_0)).trans hx126_0
                            replace p126 := eq_true p126
                            replace q126 := eq_true q126
                            have p17 : 0 ≤ ((ji14) : Int) := of_decide_eq_true (by first | (with_reducible assumption) | assumption)
                            have q17 : ((ji14) : Int) < ((x9_2.length : Int) : Int) := of_decide_eq_true (by first | (with_reducible assumption) | assumption)
                            obtain ⟨go17, co17, eo17, gb17, gl17, cl17, HG17⟩ := Kd.R_form HO_9.out (by omega)
                            (first | cases eo17 | (injection eo17 with ea_ en_ ec_; (first | subst ea_ | (injection ea_ with ea_; subst ea_)); subst ec_; clear en_))
                            have GB17 := Aside0.mk gb17
                            have GG17 := Aside0.mk HG17
                            clear gb17 gl17 HG17
                            obtain ⟨hx17_0, hf17_0⟩ := Kd.R_celln false HO_9.out ((ji14) : Int) p17 q17
                            replace p17 := eq_true p17
                            replace q17 := eq_true q17
                            have HP18 := Kd.R_putg HO_9.out ((ji14) : Int) (rdOf false l0 x12_1)
                            go_wp2_with (first | ((with_reducible refine gate_store (t := 4) (p := 56) rfl ?_); refine store_event (t := 4) (p := 56) (v := ?vo_w19) (w1 := (wr.setCell ⟨go17, ((ji14) : Int).toNat, none⟩ (.bool (rdOf false l0 x12_1)))) ?hg ?ho ?hn ?hr ?_; (case ho => rfl); (case hg => rfl); (case hn => rfl); (case hr => first | (go_simp; done) | (go_simp; rfl)); intro w19 hw; have hg : wr.grownBy w19 (some go17) := (by rw [hw]; exact HP18.2); have hp_ : Kd.R Kd.bool 4 w19 w.heap.size (fun _ => True) (.slice (some ⟨go17, 0, none⟩) x9_2.length co17) y127 := (by rw [hw, Ny127.out]; exact HP18.1); clear HP18; have n0_ := Aside0.mk (hp_); have n1_ := Aside0.mk ((by rw [hw]; exact below_set (HB.out) GB17.out : Below w.heap.size w w19)); clear HO_9; clear HB; have HO_9 := n0_; have HB := n1_; clear n0_ n1_; clear hg hw hp_))
                            go_roundg k2
                            case measure => have := HK1.out; have := HK2.out; omega
                            case rel => exact ⟨(y127), (wrap64 (x13_2 + 1)), (by first | rfl | (simp; done) | (simp [*]; done)), H', ⟨by have := HK1.out; have := HK2.out; omega⟩, ⟨by (with_reducible repeat (first | apply Kd.R_alloc | apply Kd.R_drewN | apply Kd.R_drew)); exact HO_9.out⟩, ⟨by repeat (first | (with_reducible first | exact HB.out | apply below_alloc | apply pw_below_drewN | apply below_drew1) | exact HB.out)⟩⟩
                          · rw [if_neg c16] at H
                            exact absurd H (by simp)
                        · rw [if_neg c15] at H
                          exact absurd H (by simp)
                      · rw [if_neg c13] at H
                        exact absurd H (by simp)
                    · rw [if_neg c12] at H
                      exact absurd H (by simp)
                  · rw [if_neg c11] at H
                    have c11b0 : decide (x13_2 < (wrap64 (Int.tdiv (ji4) (wrap64 ((l0.length : Int) + a2))))) = false := decide_eq_false c11
                    clear c11
                    have H' := Aside0.mk H
                    clear H
                    go_wp2
                    go_roundg k2
                    case measure => have := HK1.out; have := HK2.out; omega
                    case rel => exact ⟨(x9_2), (wrap64 (x12_1 + 1)), (by first | rfl | (simp; done) | (simp [*]; done)), H', ⟨by have := HK1.out; have := HK2.out; omega⟩, ⟨by (with_reducible repeat (first | apply Kd.R_alloc | apply Kd.R_drewN | apply Kd.R_drew)); exact HO_9.out⟩, ⟨by repeat (first | (with_reducible first | exact HB.out | apply below_alloc | apply pw_below_drewN | apply below_drew1) | exact HB.out)⟩⟩
            · rw [if_neg c10] at H
              have c10b0 : decide (x12_1 < (l0.length : Int)) = false := decide_eq_false c10
              clear c10
              obtain rfl := Option.some.inj H
              go_wp2
              go_ret
              exact ⟨_, by first | rfl | (simp [errW_none, errW_some] <;> rfl) | (simp only [← hji4]; first | rfl | (simp [errW_none, errW_some] <;> rfl)) | (simp [*, errW_none, errW_some] <;> rfl), by (with_reducible repeat (first | apply Kd.R_alloc | apply Kd.R_drewN | apply Kd.R_drew)); exact HO_9.out, by repeat (first | (with_reducible first | exact HB.out | apply below_alloc | apply pw_below_drewN | apply below_drew1) | exact HB.out)⟩
    · rw [if_neg c6] at H
      exact absurd H (by simp)
  · rw [if_neg c5] at H
    exact absurd H (by simp)

/-! ### spec_ODSome: function 25 -/
def spec_ODSome.l0 : Nat → ByteArray → List Int → Int → ByteArray → Int → Option (ByteArray)
  | 0, _, _, _, _, _ => none
  | k + 1, x0, x1, x2, x7, x8 => if x8 < (x1.length : Int) then (if x8 < x2 then (if 0 ≤ x8 then (if (x0.size : Int) = 0 then (none) else (if 0 ≤ (Int.tmod (wrap64 (rd x1 x8)) (x0.size : Int)) then (if (Int.tmod (wrap64 (rd x1 x8)) (x0.size : Int)) ≤ (wrap64 ((Int.tmod (wrap64 (rd x1 x8)) (x0.size : Int)) + 1)) then (if (wrap64 ((Int.tmod (wrap64 (rd x1 x8)) (x0.size : Int)) + 1)) ≤ (x0.size : Int) then (if x7.size + (x0.extract ((Int.tmod (wrap64 (rd x1 x8)) (x0.size : Int)) : Int).toNat ((wrap64 ((Int.tmod (wrap64 (rd x1 x8)) (x0.size : Int)) + 1)) : Int).toNat).size ≤ 9223372036854775807 then (spec_ODSome.l0 k x0 x1 x2 (x7 ++ (x0.extract ((Int.tmod (wrap64 (rd x1 x8)) (x0.size : Int)) : Int).toNat ((wrap64 ((Int.tmod (wrap64 (rd x1 x8)) (x0.size : Int)) + 1)) : Int).toNat)) (wrap64 (x8 + 1))) else (none)) else (none)) else (none)) else (none))) else (none)) else (some x7)) else (some x7)
def spec_ODSome.f (k : Nat) (a0 : ByteArray) (l1 : List Int) (a2 : Int) : Option (ByteArray) := spec_ODSome.l0 k a0 l1 a2 (⟨#[]⟩ : ByteArray) 0
theorem spec_ODSome.mono_l : ∀ k, (∀ y0 y1 y2 y3 y4, LeO (spec_ODSome.l0 k y0 y1 y2 y3 y4) (spec_ODSome.l0 (k + 1) y0 y1 y2 y3 y4))
  | 0 => fun _ _ _ _ _ r h => by simp [spec_ODSome.l0] at h
  | k + 1 => by
    have ih0 := spec_ODSome.mono_l k
    · intro y0 y1 y2 y3 y4
      unfold spec_ODSome.l0
      repeat' first
      | (with_reducible exact ih0 _ _ _ _ _)
      | (with_reducible exact LeO.refl _)
      | (with_reducible exact LeO.none _)
      | (with_reducible refine LeO.ite ?_ ?_)
      | (with_reducible refine LeO.bind ?_ (fun _ => ?_))
      | exact ih0 _ _ _ _ _
      | exact LeO.none _
      | refine LeO.ite ?_ ?_
      | refine LeO.bind ?_ (fun _ => ?_)
theorem spec_ODSome.mono : ∀ a0 a1 a2 k, LeO (spec_ODSome.f k a0 a1 a2) (spec_ODSome.f (k + 1) a0 a1 a2) := by
  intro a0 a1 a2 k
  have ih0 := spec_ODSome.mono_l k
  unfold spec_ODSome.f
  repeat' first
      | (with_reducible exact ih0 _ _ _ _ _)
      | (with_reducible exact LeO.refl _)
      | (with_reducible exact LeO.none _)
      | (with_reducible refine LeO.ite ?_ ?_)
      | (with_reducible refine LeO.bind ?_ (fun _ => ?_))
      | exact ih0 _ _ _ _ _
      | exact LeO.none _
      | refine LeO.ite ?_ ?_
      | refine LeO.bind ?_ (fun _ => ?_)
set_option maxHeartbeats 8000000 in
set_option maxRecDepth 100000 in
theorem spec_ODSome.calls (k : Nat) (a0 : ByteArray) (A1 : Option Addr) (c1 : Nat) (l1 : List Int) (a2 : Int) (r : ByteArray) (w : World) (hr1 : Kd.C (Kd.int .u8) w A1 l1.length l1) (hc1 : l1.length ≤ c1) (h : spec_ODSome.f k a0 l1 a2 = some r) :
    Calls Tryz.prog 25 #[.string a0, .slice A1 l1.length c1, .int .i64 a2] w fun e w' => e = .returned (.string r) ∧ Drawn0 w w' := by
  have HR1 := Aside0.mk hr1
  have HC1 := Aside0.mk hc1
  clear hr1 hc1
  have H : (spec_ODSome.l0 k a0 l1 a2 (⟨#[]⟩ : ByteArray) 0) = some r := h
  clear h
  have H' := Aside0.mk H
  clear H
  go_enter Tryz.func25, Tryz.ntmps25
  go_wp2
  go_loopg [7, 8] k (fun kq v7 v8 w' => ∃ (x7_1 : ByteArray) (x8_1 : Int), v7 = .string x7_1 ∧ v8 = .int .i64 x8_1 ∧ Aside0 (spec_ODSome.l0 kq a0 l1 a2 x7_1 x8_1 = some r) ∧ Aside0 (kq ≤ k) ∧ Drawn0 w w')
  case atStart => exact ⟨((⟨#[]⟩ : ByteArray)), (0), (by first | rfl | (simp; done) | (simp [*]; done)), (by first | rfl | (simp; done) | (simp [*]; done)), H', ⟨Nat.le_refl _⟩, by repeat (first | exact Drawn0.refl _ | apply Drawn0.step)⟩
  case round =>
    clear H'
    try clear c1
    try clear c2
    try clear p2
    obtain ⟨x7_1, x8_1, rfl, rfl, HA, HK1, ⟨m1, rfl⟩⟩ := hrel
    cases gk with
    | zero => exact absurd HA.out (by simp [spec_ODSome.l0])
    | succ k1 =>
      have H := HA.out
      clear HA
      simp only [spec_ODSome.l0] at H
      by_cases c4 : x8_1 < (l1.length : Int)
      · rw [if_pos c4] at H
        have c4b0 : decide (x8_1 < (l1.length : Int)) = true := decide_eq_true c4
        clear c4
        by_cases c5 : x8_1 < a2
        · rw [if_pos c5] at H
          have c5b0 : decide (x8_1 < a2) = true := decide_eq_true c5
          clear c5
          by_cases c6 : 0 ≤ x8_1
          · rw [if_pos c6] at H
            have c6b0 : decide (0 ≤ x8_1) = true := decide_eq_true c6
            clear c6
            by_cases c7 : (a0.size : Int) = 0
            · rw [if_pos c7] at H
              exact absurd H (by simp)
            · rw [if_neg c7] at H
              have c7b0 : ((a0.size : Int) == 0) = false := beq_eq_false_iff_ne.mpr c7
              have c7b1 : ((a0.size : Int) != 0) = true := bne_iff_ne.mpr c7
              obtain ⟨ji8, hji8⟩ : ∃ j_ : Int, (Int.tmod (wrap64 (rd l1 x8_1)) (a0.size : Int)) = j_ := ⟨_, rfl⟩
              replace H : (if 0 ≤ (ji8) then (if (ji8) ≤ (wrap64 ((ji8) + 1)) then (if (wrap64 ((ji8) + 1)) ≤ (a0.size : Int) then (if x7_1.size + (a0.extract ((ji8) : Int).toNat ((wrap64 ((ji8) + 1)) : Int).toNat).size ≤ 9223372036854775807 then (spec_ODSome.l0 k1 a0 l1 a2 (x7_1 ++ (a0.extract ((ji8) : Int).toNat ((wrap64 ((ji8) + 1)) : Int).toNat)) (wrap64 (x8_1 + 1))) else (none)) else (none)) else (none)) else (none)) = some r := by first | (rw [hji8] at H; exact H) | (simp only [hji8] at H ⊢; exact H)
              by_cases c9 : 0 ≤ (ji8)
              · rw [if_pos c9] at H
                have c9b0 := eq_true c9
                have c9b1 : decide (0 ≤ (ji8)) = true := decide_eq_true c9
                clear c9
                by_cases c10 : (ji8) ≤ (wrap64 ((ji8) + 1))
                · rw [if_pos c10] at H
                  have c10b0 := eq_true c10
                  have c10b1 : decide ((ji8) ≤ (wrap64 ((ji8) + 1))) = true := decide_eq_true c10
                  by_cases c11 : (wrap64 ((ji8) + 1)) ≤ (a0.size : Int)
                  · rw [if_pos c11] at H
                    have c11b0 := eq_true c11
                    have c11b1 : decide ((wrap64 ((ji8) + 1)) ≤ (a0.size : Int)) = true := decide_eq_true c11
                    by_cases c12 : x7_1.size + (a0.extract ((ji8) : Int).toNat ((wrap64 ((ji8) + 1)) : Int).toNat).size ≤ 9223372036854775807
                    · rw [if_pos c12] at H
                      have c12b0 := eq_true c12
                      have c12b1 : decide (x7_1.size + (a0.extract ((ji8) : Int).toNat ((wrap64 ((ji8) + 1)) : Int).toNat).size ≤ 9223372036854775807) = true := decide_eq_true c12
                      try have c12b2 : (9223372036854775807 < x7_1.size + (a0.extract ((ji8) : Int).toNat ((wrap64 ((ji8) + 1)) : Int).toNat).size) = False := eq_false (Nat.not_lt.2 c12)
                      have H' := Aside0.mk H
                      clear H
                      have p187 : 0 ≤ (x8_1 : Int) := of_decide_eq_true (by first | (with_reducible assumption) | assumption)
                      have q187 : x8_1 < (l1.length : Int) := of_decide_eq_true (by first | (with_reducible assumption) | assumption)
                      obtain ⟨ad187, e187, hx187_0⟩ := Kd.at_int HR1.out x8_1 p187 q187
                      cases e187
                      replace p187 := eq_true p187
                      replace q187 := eq_true q187
                      go_wp2
                      go_roundg k1
                      case measure => have := HK1.out; omega
                      case rel => exact ⟨(x7_1 ++ (a0.extract ((ji8) : Int).toNat ((wrap64 ((ji8) + 1)) : Int).toNat)), (wrap64 (x8_1 + 1)), (by first | rfl | (simp; done) | (simp only [← hji8] <;> (first | rfl | simp)) | (simp [*]; done)), (by first | rfl | (simp; done) | (simp [*]; done)), H', ⟨by have := HK1.out; omega⟩, by repeat (first | exact Drawn0.refl _ | apply Drawn0.step)⟩
                    · rw [if_neg c12] at H
                      exact absurd H (by simp)
                  · rw [if_neg c11] at H
                    exact absurd H (by simp)
                · rw [if_neg c10] at H
                  exact absurd H (by simp)
              · rw [if_neg c9] at H
                exact absurd H (by simp)
          · rw [if_neg c6] at H
            exact absurd H (by simp)
        · rw [if_neg c5] at H
          have c5b0 : decide (x8_1 < a2) = false := decide_eq_false c5
          clear c5
          obtain rfl := Option.some.inj H
          go_wp2
          go_ret
          exact ⟨by first | rfl | (simp; done) | (simp [*]; done), by repeat (first | exact Drawn0.refl _ | apply Drawn0.step)⟩
      · rw [if_neg c4] at H
        have c4b0 : decide (x8_1 < (l1.length : Int)) = false := decide_eq_false c4
        clear c4
        obtain rfl := Option.some.inj H
        go_wp2
        go_ret
        exact ⟨by first | rfl | (simp; done) | (simp [*]; done), by repeat (first | exact Drawn0.refl _ | apply Drawn0.step)⟩

/-! ### laws_odWidths: function 14 -/
def laws_odWidths.f (a0 : Int) (a1 : Int) : Option (Int × Int) := some (Int.tmod (wrap64 (a0)) 3000, wrap64 (20 + (Int.tmod (wrap64 (a1)) 40)))
set_option maxHeartbeats 8000000 in
set_option maxRecDepth 100000 in
theorem laws_odWidths.calls (a0 : Int) (a1 : Int) (r1 : Int) (r2 : Int) (w : World) (h : laws_odWidths.f a0 a1 = some (r1, r2)) :
    Calls Tryz.prog 14 #[.int .u16 a0, .int .u8 a1] w fun e w' => e = .returned (.tuple #[.int .i64 r1, .int .i64 r2]) ∧ Drawn0 w w' := by
  have H : (some (Int.tmod (wrap64 (a0)) 3000, wrap64 (20 + (Int.tmod (wrap64 (a1)) 40)))) = some (r1, r2) := h
  clear h
  simp only [Option.some.injEq, Prod.mk.injEq] at H
  obtain ⟨rfl, rfl⟩ := H
  go_enter Tryz.func14, Tryz.ntmps14
  go_wp2
  go_ret2
  exact ⟨by first | rfl | (simp; done) | (simp [*]; done), by repeat (first | exact Drawn0.refl _ | apply Drawn0.step)⟩

-- NOT PRINTED: function 70 (oned_NewOneDimensionalCodeWriter)

-- NOT PRINTED: function 48 (oned_NewCodaBarWriter)

-- NOT PRINTED: function 49 (oned_NewCode39Writer)

-- NOT PRINTED: function 50 (oned_NewCode93Writer)

-- NOT PRINTED: function 51 (oned_NewCode128Writer)

-- NOT PRINTED: function 71 (oned_NewUPCEANWriter)

-- NOT PRINTED: function 52 (oned_NewEAN8Writer)

-- NOT PRINTED: function 53 (oned_NewEAN13Writer)

-- NOT PRINTED: function 54 (oned_NewITFWriter)

-- NOT PRINTED: function 55 (oned_NewUPCAWriter)

-- NOT PRINTED: function 56 (oned_NewUPCEWriter)

-- NOT PRINTED: function 29 (impl_writer)

/-- A state of type 100 at block g of W; what its slices lead to came in by w0. -/
def IsS100 (w0 W : World) (g : Nat) (f0 : List Int) (f1 : Int) : Prop := ∃ A0 c0, W.heap[g]? = some (.cells #[.slice A0 f0.length c0, .int .i64 f1] 100 (0, 0)) ∧ w0.heap.size ≤ g ∧ Kd.C (Kd.int .u32) w0 A0 f0.length f0
theorem IsS100.grown {w0 W : World} {g : Nat} {f0 : List Int} {f1 : Int} {W1 : World} {row : Option Nat} (h : IsS100 w0 W g f0 f1) (hw : W.grownBy W1 row) (hne : some g ≠ row) : IsS100 w0 W1 g f0 f1 := by
  obtain ⟨A0, c0, hb, hg, hr0⟩ := h
  exact ⟨A0, c0, blk_grown hb hw hne, hg, hr0⟩
theorem IsS100.own_neN {w0 W : World} {g : Nat} {f0 : List Int} {f1 : Int} {α : Type} {d : Kd α} {e : Nat} {base : Nat} {ok : Nat → Prop} {v : Value} {xs : List α} (h : IsS100 w0 W g f0 f1) (ho : Kd.N d e W base ok v xs) (ht : e ≠ 100) : some g ≠ v.ownBlock := by
  obtain ⟨A0, c0, hb, hg, hr0⟩ := h
  exact Kd.N_ne ho hb ht
theorem IsS100.fresh {w0 W : World} {g : Nat} {f0 : List Int} {f1 : Int} (h : IsS100 w0 W g f0 f1) : ∀ k, W.heap.size ≤ k → k ≠ g := by
  obtain ⟨A0, c0, hb, hg, hr0⟩ := h
  exact Kd.freshB hb
theorem IsS100.kept {w0 W : World} {g : Nat} {f0 : List Int} {f1 : Int} {W1 : World} {S : Nat → Prop} (h : IsS100 w0 W g f0 f1) (hk : Kept W W1 S) (hne : ¬ S g) : IsS100 w0 W1 g f0 f1 := by
  obtain ⟨A0, c0, hb, hg, hr0⟩ := h
  exact ⟨A0, c0, blk_kept hb hk hne, hg, hr0⟩
theorem IsS100.below {w0 W : World} {g : Nat} {f0 : List Int} {f1 : Int} {W1 : World} (h : IsS100 w0 W g f0 f1) (hw : Below W.heap.size W W1) : IsS100 w0 W1 g f0 f1 := h.grown (grown_of_below hw none) (by simp)
theorem IsS100.alloc {w0 W : World} {g : Nat} {f0 : List Int} {f1 : Int} (h : IsS100 w0 W g f0 f1) (o : Obj) : IsS100 w0 (W.alloc o) g f0 f1 := h.below (below_alloc (Below.refl _ _) o)
theorem IsS100.drewN {w0 W : World} {g : Nat} {f0 : List Int} {f1 : Int} (h : IsS100 w0 W g f0 f1) (m : Nat) : IsS100 w0 (W.drewN m) g f0 f1 := h
theorem IsS100.drew {w0 W : World} {g : Nat} {f0 : List Int} {f1 : Int} (h : IsS100 w0 W g f0 f1) : IsS100 w0 W.drew g f0 f1 := h
theorem IsS100.at_ {w0 W : World} {g : Nat} {f0 : List Int} {f1 : Int} {w' : World} {m : Nat} (hq : W.drewN m = w') (h : IsS100 w0 W g f0 f1) : IsS100 w0 w' g f0 f1 := by subst hq; exact IsS100.drewN h m
theorem IsS100.apart {w0 W : World} {g : Nat} {f0 : List Int} {f1 : Int} {α : Type} {d : Kd α} {e : Nat} {base : Nat} {ok : Nat → Prop} {v : Value} {xs : List α} (h : IsS100 w0 W g f0 f1) (ho : d.R e W base ok v xs) (ht : ∀ q, q ∈ e :: d.E → q ≠ 100) : d.R e W base (fun k => ok k ∧ k ≠ g) v xs := by
  obtain ⟨A0, c0, hb, hg, hr0⟩ := h
  exact Kd.R_types ho hb ht
theorem IsS100.own_ne {w0 W : World} {g : Nat} {f0 : List Int} {f1 : Int} {α : Type} {d : Kd α} {e : Nat} {base : Nat} {ok : Nat → Prop} {v : Value} {xs : List α} (h : IsS100 w0 W g f0 f1) (ho : d.R e W base ok v xs) (ht : e ≠ 100) : some g ≠ v.ownBlock := by
  obtain ⟨A0, c0, hb, hg, hr0⟩ := h
  exact Kd.R_ne ho hb ht
theorem IsS100.apartQ {w0 W : World} {g : Nat} {f0 : List Int} {f1 : Int} {α : Type} {d : Kd α} {e : Nat} {base : Nat} {ok : Nat → Prop} {v : Value} {xs : List α} (h : IsS100 w0 W g f0 f1) (ho : d.Q e W base ok v xs) (ht : ∀ q, q ∈ e :: d.E → q ≠ 100) : d.Q e W base (fun k => ok k ∧ k ≠ g) v xs := by
  obtain ⟨A0, c0, hb, hg, hr0⟩ := h
  exact Kd.Q_types ho hb ht
theorem IsS100.own_neQ {w0 W : World} {g : Nat} {f0 : List Int} {f1 : Int} {α : Type} {d : Kd α} {e : Nat} {base : Nat} {ok : Nat → Prop} {v : Value} {xs : List α} (h : IsS100 w0 W g f0 f1) (ho : d.Q e W base ok v xs) (ht : e ≠ 100) : some g ≠ v.ownBlock := by
  obtain ⟨A0, c0, hb, hg, hr0⟩ := h
  exact Kd.Q_ne ho hb ht
theorem IsS100.apartS {w0 W : World} {g : Nat} {f0 : List Int} {f1 : Int} {α : Type} {d : Kd α} {e : Nat} {base : Nat} {ok : Nat → Prop} {v : Value} {xs : List α} (h : IsS100 w0 W g f0 f1) (ho : d.S e W base ok v xs) (ht : ∀ q, q ∈ e :: d.E → q ≠ 100) : d.S e W base (fun k => ok k ∧ k ≠ g) v xs := by
  obtain ⟨A0, c0, hb, hg, hr0⟩ := h
  exact Kd.S_types ho hb ht
theorem IsS100.own_neS {w0 W : World} {g : Nat} {f0 : List Int} {f1 : Int} {α : Type} {d : Kd α} {e : Nat} {base : Nat} {ok : Nat → Prop} {v : Value} {xs : List α} (h : IsS100 w0 W g f0 f1) (ho : d.S e W base ok v xs) (ht : e ≠ 100) : some g ≠ v.ownBlock := by
  obtain ⟨A0, c0, hb, hg, hr0⟩ := h
  exact Kd.S_ne ho hb ht
theorem IsS100.lt {w0 W : World} {g : Nat} {f0 : List Int} {f1 : Int} (h : IsS100 w0 W g f0 f1) : g < W.heap.size := by
  obtain ⟨A0, c0, hb, hg, hr0⟩ := h
  exact blk_lt hb
theorem IsS100.ge {w0 W : World} {g : Nat} {f0 : List Int} {f1 : Int} (h : IsS100 w0 W g f0 f1) : w0.heap.size ≤ g := by
  obtain ⟨A0, c0, hb, hg, hr0⟩ := h
  exact hg
theorem IsS100.ne_blk {w0 W : World} {g : Nat} {f0 : List Int} {f1 : Int} {a : Nat} {cs : Array Value} {t : TypeId} {fr : Nat × Nat} (h : IsS100 w0 W g f0 f1) (hb2 : W.heap[a]? = some (.cells cs t fr)) (ht : t ≠ 100) : g ≠ a := by
  obtain ⟨A0, c0, hb, hg, hr0⟩ := h
  rintro rfl
  rw [hb] at hb2
  injection hb2 with hb2
  injection hb2 with _ ht2
  exact ht ht2.symm
theorem IsS100.far {w0 W : World} {g : Nat} {f0 : List Int} {f1 : Int} {p : Addr} (h : IsS100 w0 W g f0 f1) (hne : g ≠ p.block) (u : Value) : IsS100 w0 (W.setCell p u) g f0 f1 := by
  obtain ⟨A0, c0, hb, hg, hr0⟩ := h
  exact ⟨A0, c0, blk_far hb hne u, hg, hr0⟩
theorem cellS100_0 {W : World} {g : Nat} {A0 : Option Addr} {c0 : Nat} {f0 : List Int} {f1 : Int} (h : W.heap[g]? = some (.cells #[.slice A0 f0.length c0, .int .i64 f1] 100 (0, 0))) : W.cell? ⟨g, 0, none⟩ = some (.slice A0 f0.length c0) := (blk_cell h 0).trans rfl
theorem cellS100_1 {W : World} {g : Nat} {A0 : Option Addr} {c0 : Nat} {f0 : List Int} {f1 : Int} (h : W.heap[g]? = some (.cells #[.slice A0 f0.length c0, .int .i64 f1] 100 (0, 0))) : W.cell? ⟨g, 1, none⟩ = some (.int .i64 f1) := (blk_cell h 1).trans rfl
theorem IsS100.set_1 {w0 W : World} {g : Nat} {f0 : List Int} {f1 : Int} (h : IsS100 w0 W g f0 f1) (x : Int) : IsS100 w0 (W.setCell ⟨g, 1, none⟩ (.int .i64 x)) g f0 x := by
  obtain ⟨A0, c0, hb, hg, hr0⟩ := h
  exact ⟨A0, c0, by simpa using blk_set hb 1 (.int .i64 x), hg, hr0⟩
theorem IsS100.new (w0 W : World) (A0 : Option Addr) (c0 : Nat) (f0 : List Int) (f1 : Int) (hB : Below w0.heap.size w0 W) (hr0 : Kd.C (Kd.int .u32) w0 A0 f0.length f0) : IsS100 w0 (W.alloc (.cells #[.slice A0 f0.length c0, .int .i64 f1] 100)) W.heap.size f0 f1 := ⟨A0, c0, by simpa using heap_alloc_new W _, hB.size, hr0⟩

/-! ### oned_onedWriter_appendPattern: function 145 -/
mutual
def oned_onedWriter_appendPattern.l0 : Nat → List Bool → Int → Bool → Int → List Int → Int → Int → Option (Int × List Bool)
  | 0, _, _, _, _, _, _, _ => none
  | k + 1, x0, x1, x9, x10, x15, x16, x17 => if x17 < x16 then (if 0 ≤ x17 then (if x17 < (x15.length : Int) then (oned_onedWriter_appendPattern.l1 k x0 x1 x9 x10 (rd x15 x17) 0 x15 x16 x17) else (none)) else (none)) else (some (x10, x0))
def oned_onedWriter_appendPattern.l1 : Nat → List Bool → Int → Bool → Int → Int → Int → List Int → Int → Int → Option (Int × List Bool)
  | 0, _, _, _, _, _, _, _, _, _ => none
  | k + 1, x0, x1, x9, x10, x12, x13, x15, x16, x17 => if x13 < x12 then (if 0 ≤ x1 then (if x1 < (x0.length : Int) then (oned_onedWriter_appendPattern.l1 k (x0.set (x1 : Int).toNat x9) (wrap64 (x1 + 1)) x9 x10 x12 (wrap64 (x13 + 1)) x15 x16 x17) else (none)) else (none)) else (oned_onedWriter_appendPattern.l0 k x0 x1 (!x9) (wrap64 (x10 + x12)) x15 x16 (wrap64 (x17 + 1)))
end
def oned_onedWriter_appendPattern.f (k : Nat) (l0 : List Bool) (a1 : Int) (l2 : List Int) (a3 : Bool) : Option (Int × List Bool) := oned_onedWriter_appendPattern.l0 k l0 a1 a3 0 l2 (l2.length : Int) 0
theorem oned_onedWriter_appendPattern.mono_l : ∀ k, (∀ y0 y1 y2 y3 y4 y5 y6, LeO (oned_onedWriter_appendPattern.l0 k y0 y1 y2 y3 y4 y5 y6) (oned_onedWriter_appendPattern.l0 (k + 1) y0 y1 y2 y3 y4 y5 y6)) ∧ (∀ y0 y1 y2 y3 y4 y5 y6 y7 y8, LeO (oned_onedWriter_appendPattern.l1 k y0 y1 y2 y3 y4 y5 y6 y7 y8) (oned_onedWriter_appendPattern.l1 (k + 1) y0 y1 y2 y3 y4 y5 y6 y7 y8))
  | 0 => ⟨fun _ _ _ _ _ _ _ r h => by simp [oned_onedWriter_appendPattern.l0] at h, fun _ _ _ _ _ _ _ _ _ r h => by simp [oned_onedWriter_appendPattern.l1] at h⟩
  | k + 1 => by
    obtain ⟨ih0, ih1⟩ := oned_onedWriter_appendPattern.mono_l k
    refine ⟨?_, ?_⟩
    · intro y0 y1 y2 y3 y4 y5 y6
      unfold oned_onedWriter_appendPattern.l0
      repeat' first
      | (with_reducible exact ih0 _ _ _ _ _ _ _)
      | (with_reducible exact ih1 _ _ _ _ _ _ _ _ _)
      | (with_reducible exact LeO.refl _)
      | (with_reducible exact LeO.none _)
      | (with_reducible refine LeO.ite ?_ ?_)
      | (with_reducible refine LeO.bind ?_ (fun _ => ?_))
      | exact ih0 _ _ _ _ _ _ _
      | exact ih1 _ _ _ _ _ _ _ _ _
      | exact LeO.none _
      | refine LeO.ite ?_ ?_
      | refine LeO.bind ?_ (fun _ => ?_)
    · intro y0 y1 y2 y3 y4 y5 y6 y7 y8
      unfold oned_onedWriter_appendPattern.l1
      repeat' first
      | (with_reducible exact ih0 _ _ _ _ _ _ _)
      | (with_reducible exact ih1 _ _ _ _ _ _ _ _ _)
      | (with_reducible exact LeO.refl _)
      | (with_reducible exact LeO.none _)
      | (with_reducible refine LeO.ite ?_ ?_)
      | (with_reducible refine LeO.bind ?_ (fun _ => ?_))
      | exact ih0 _ _ _ _ _ _ _
      | exact ih1 _ _ _ _ _ _ _ _ _
      | exact LeO.none _
      | refine LeO.ite ?_ ?_
      | refine LeO.bind ?_ (fun _ => ?_)
theorem oned_onedWriter_appendPattern.mono : ∀ a0 a1 a2 a3 k, LeO (oned_onedWriter_appendPattern.f k a0 a1 a2 a3) (oned_onedWriter_appendPattern.f (k + 1) a0 a1 a2 a3) := by
  intro a0 a1 a2 a3 k
  obtain ⟨ih0, ih1⟩ := oned_onedWriter_appendPattern.mono_l k
  unfold oned_onedWriter_appendPattern.f
  repeat' first
      | (with_reducible exact ih0 _ _ _ _ _ _ _)
      | (with_reducible exact ih1 _ _ _ _ _ _ _ _ _)
      | (with_reducible exact LeO.refl _)
      | (with_reducible exact LeO.none _)
      | (with_reducible refine LeO.ite ?_ ?_)
      | (with_reducible refine LeO.bind ?_ (fun _ => ?_))
      | exact ih0 _ _ _ _ _ _ _
      | exact ih1 _ _ _ _ _ _ _ _ _
      | exact LeO.none _
      | refine LeO.ite ?_ ?_
      | refine LeO.bind ?_ (fun _ => ?_)
set_option maxHeartbeats 8000000 in
set_option maxRecDepth 100000 in
theorem oned_onedWriter_appendPattern.calls (k : Nat) (P0_ : Nat → Prop) (u9000_ : Value) (l0 : List Bool) (a1 : Int) (A2 : Option Addr) (c2 : Nat) (l2 : List Int) (a3 : Bool) (r1 : Int) (r2 : List Bool) (w0 w : World) (hB : Below w0.heap.size w0 w) (ho0 : Kd.R Kd.bool 4 w w0.heap.size P0_ u9000_ l0) (hr2 : ∀ W_, Kept w W_ (fun k_ => P0_ k_) → Kd.C (Kd.int .i64) W_ A2 l2.length l2) (hc2 : l2.length ≤ c2) (h : oned_onedWriter_appendPattern.f k l0 a1 l2 a3 = some (r1, r2)) :
    Calls Tryz.prog 145 #[u9000_, .int .i64 a1, .slice A2 l2.length c2, .bool a3] w fun e w' => e = .returned (.int .i64 r1) ∧ Kd.R Kd.bool 4 w' w0.heap.size (fun k_ => (P0_ k_ ∨ w.heap.size ≤ k_)) u9000_ r2 ∧ Below w0.heap.size w0 w' ∧ Kept w w' (fun k_ => P0_ k_) := by
  have HO0 := Aside0.mk (show Kd.R Kd.bool 4 w w0.heap.size (fun k_ => (P0_ k_ ∨ w.heap.size ≤ k_)) u9000_ l0 from Kd.R_mono ho0 (fun k_ hk => (.inl hk)))
  have HR2 := Aside0.mk hr2
  have HC2 := Aside0.mk hc2
  clear hr2 hc2
  have HK := Aside0.mk (Kept.refl w (fun k_ => P0_ k_))
  have HW0 := Aside0.mk hB.size
  have HB := Aside0.mk hB
  clear hB
  have H : (oned_onedWriter_appendPattern.l0 k l0 a1 a3 0 l2 (l2.length : Int) 0) = some (r1, r2) := h
  clear h
  have H' := Aside0.mk H
  clear H
  go_enter Tryz.func145, Tryz.ntmps145
  go_wp2
  go_loopg [1, 9, 10, 17] k (fun kq v1 v9 v10 v17 w' => ∃ (x0_1 : List Bool) (x1_1 : Int) (x9_1 : Bool) (x10_1 : Int) (x17_1 : Int), v1 = .int .i64 x1_1 ∧ v9 = .bool x9_1 ∧ v10 = .int .i64 x10_1 ∧ v17 = .int .i64 x17_1 ∧ Aside0 (oned_onedWriter_appendPattern.l0 kq x0_1 x1_1 x9_1 x10_1 l2 (l2.length : Int) x17_1 = some (r1, r2)) ∧ Aside0 (kq ≤ k) ∧ Aside0 (Kd.R Kd.bool 4 w' w0.heap.size (fun k_ => (P0_ k_ ∨ w.heap.size ≤ k_)) u9000_ x0_1) ∧ Aside0 (Kept w w' (fun k_ => P0_ k_)) ∧ Aside0 (Below w0.heap.size w0 w'))
  case atStart => exact ⟨(l0), (a1), (a3), (0), (0), (by first | rfl | (simp; done) | (simp [*]; done)), (by first | rfl | (simp; done) | (simp [*]; done)), (by first | rfl | (simp; done) | (simp [*]; done)), (by first | rfl | (simp; done) | (simp [*]; done)), H', ⟨Nat.le_refl _⟩, ⟨by (with_reducible repeat (first | apply Kd.R_alloc | apply Kd.R_drewN | apply Kd.R_drew)); exact HO0.out⟩, ⟨by repeat (first | (with_reducible first | exact HK.out | apply Kept.alloc | apply Kept.drewN | apply Kept.drew) | exact HK.out)⟩, ⟨by repeat (first | (with_reducible first | exact HB.out | apply below_alloc | apply pw_below_drewN | apply below_drew1) | exact HB.out)⟩⟩
  case round =>
    clear H'
    try clear c1
    try clear c2
    try clear p2
    obtain ⟨x0_1, x1_1, x9_1, x10_1, x17_1, rfl, rfl, rfl, rfl, HA, HK1, HO_0, HK, HB⟩ := hrel
    cases gk with
    | zero => exact absurd HA.out (by simp [oned_onedWriter_appendPattern.l0])
    | succ k1 =>
      have H := HA.out
      clear HA
      simp only [oned_onedWriter_appendPattern.l0] at H
      by_cases c5 : x17_1 < (l2.length : Int)
      · rw [if_pos c5] at H
        have c5b0 : decide (x17_1 < (l2.length : Int)) = true := decide_eq_true c5
        clear c5
        by_cases c6 : 0 ≤ x17_1
        · rw [if_pos c6] at H
          have c6b0 : decide (0 ≤ x17_1) = true := decide_eq_true c6
          clear c6
          by_cases c7 : x17_1 < (l2.length : Int)
          · rw [if_pos c7] at H
            have c7b0 : decide (x17_1 < (l2.length : Int)) = true := decide_eq_true c7
            clear c7
            have H' := Aside0.mk H
            clear H
            have p397 : 0 ≤ (x17_1 : Int) := of_decide_eq_true (by first | (with_reducible assumption) | assumption)
            have q397 : x17_1 < (l2.length : Int) := of_decide_eq_true (by first | (with_reducible assumption) | assumption)
            obtain ⟨ad397, e397, hx397_0⟩ := Kd.at_int (Kd.C_kept_now HR2.out HK.out) x17_1 p397 q397
            cases e397
            replace p397 := eq_true p397
            replace q397 := eq_true q397
            go_wp2
            go_loopg [1, 13] k1 (fun kq v1 v13 w' => ∃ (x0_2 : List Bool) (x1_2 : Int) (x13_2 : Int), v1 = .int .i64 x1_2 ∧ v13 = .int .i64 x13_2 ∧ Aside0 (oned_onedWriter_appendPattern.l1 kq x0_2 x1_2 x9_1 x10_1 (rd l2 x17_1) x13_2 l2 (l2.length : Int) x17_1 = some (r1, r2)) ∧ Aside0 (kq ≤ k1) ∧ Aside0 (Kd.R Kd.bool 4 w' w0.heap.size (fun k_ => (P0_ k_ ∨ w.heap.size ≤ k_)) u9000_ x0_2) ∧ Aside0 (Kept w w' (fun k_ => P0_ k_)) ∧ Aside0 (Below w0.heap.size w0 w'))
            case atStart => exact ⟨(x0_1), (x1_1), (0), (by first | rfl | (simp; done) | (simp [*]; done)), (by first | rfl | (simp; done) | (simp [*]; done)), H', ⟨Nat.le_refl _⟩, ⟨by (with_reducible repeat (first | apply Kd.R_alloc | apply Kd.R_drewN | apply Kd.R_drew)); exact HO_0.out⟩, ⟨by repeat (first | (with_reducible first | exact HK.out | apply Kept.alloc | apply Kept.drewN | apply Kept.drew) | exact HK.out)⟩, ⟨by repeat (first | (with_reducible first | exact HB.out | apply below_alloc | apply pw_below_drewN | apply below_drew1) | exact HB.out)⟩⟩
            case round =>
              clear H'
              try clear c1
              try clear c2
              try clear p2
              try clear p3
              try clear q3
              try clear hx3
              try clear c5
              try clear c5b0
              try clear c6
              try clear c6b0
              try clear c7
              try clear c7b0
              try clear hx397_0
              try clear p2
              try clear p397
              try clear q397
              obtain ⟨x0_2, x1_2, x13_2, rfl, rfl, HA, HK2, HO_0, HK, HB⟩ := hrel
              cases gk with
              | zero => exact absurd HA.out (by simp [oned_onedWriter_appendPattern.l1])
              | succ k2 =>
                have H := HA.out
                clear HA
                simp only [oned_onedWriter_appendPattern.l1] at H
                by_cases c8 : x13_2 < (rd l2 x17_1)
                · rw [if_pos c8] at H
                  have c8b0 : decide (x13_2 < (rd l2 x17_1)) = true := decide_eq_true c8
                  clear c8
                  by_cases c9 : 0 ≤ x1_2
                  · rw [if_pos c9] at H
                    have c9b0 : decide (0 ≤ x1_2) = true := decide_eq_true c9
                    clear c9
                    by_cases c10 : x1_2 < (x0_2.length : Int)
                    · rw [if_pos c10] at H
                      have c10b0 : decide (x1_2 < (x0_2.length : Int)) = true := decide_eq_true c10
                      clear c10
                      obtain ⟨y398, hy398⟩ : ∃ y_ : List Bool, y_ = (x0_2.set (x1_2 : Int).toNat x9_1) := ⟨_, rfl⟩
                      replace H : (oned_onedWriter_appendPattern.l1 k2 y398 (wrap64 (x1_2 + 1)) x9_1 x10_1 (rd l2 x17_1) (wrap64 (x13_2 + 1)) l2 (l2.length : Int) x17_1) = some (r1, r2) := by first | (rw [hy398]; with_reducible exact H) | (have H2_ := (Option.bind_some _ _).symm.trans H; rw [hy398]; with_reducible exact H2_) | (have H2_ := (Option.bind_some _ _).symm.trans H; with_reducible exact H2_) | with_reducible exact H | (rw [hy398]; exact H) | exact H
                      have Ny398 := Aside0.mk hy398
                      clear hy398
                      have H' := Aside0.mk H
                      clear H
                      have p11 : 0 ≤ (x1_2 : Int) := of_decide_eq_true (by first | (with_reducible assumption) | assumption)
                      have q11 : (x1_2 : Int) < ((x0_2.length : Int) : Int) := of_decide_eq_true (by first | (with_reducible assumption) | assumption)
                      obtain ⟨go11, co11, eo11, gb11, gl11, cl11, HG11⟩ := Kd.R_form HO_0.out (by omega)
                      (first | cases eo11 | (injection eo11 with ea_ en_ ec_; (first | subst ea_ | (injection ea_ with ea_; subst ea_)); subst ec_; clear en_))
                      have GB11 := Aside0.mk gb11
                      have GG11 := Aside0.mk HG11
                      clear gb11 gl11 HG11
                      have HMgo11 := Aside0.mk (show (P0_ go11 ∨ w.heap.size ≤ go11) from (HO_0.out.1 _ rfl))
                      obtain ⟨hx11_0, hf11_0⟩ := Kd.R_celln false HO_0.out (x1_2 : Int) p11 q11
                      replace p11 := eq_true p11
                      replace q11 := eq_true q11
                      have HP12 := Kd.R_putg HO_0.out (x1_2 : Int) x9_1
                      go_wp2_with (first | ((with_reducible refine gate_store (t := 4) (p := 29) rfl ?_); refine store_event (t := 4) (p := 29) (v := ?vo_w13) (w1 := (wr.setCell ⟨go11, (x1_2 : Int).toNat, none⟩ (.bool x9_1))) ?hg ?ho ?hn ?hr ?_; (case ho => rfl); (case hg => rfl); (case hn => rfl); (case hr => first | (go_simp; done) | (go_simp; rfl)); intro w13 hw; have hg : wr.grownBy w13 (some go11) := (by rw [hw]; exact HP12.2); have hp_ : Kd.R Kd.bool 4 w13 w0.heap.size (fun k_ => (P0_ k_ ∨ w.heap.size ≤ k_)) (.slice (some ⟨go11, 0, none⟩) x0_2.length co11) y398 := (by rw [hw, Ny398.out]; exact HP12.1); clear HP12; have n0_ := Aside0.mk (hp_); have n1_ := Aside0.mk ((by rw [hw]; exact below_set (HB.out) GB11.out : Below w0.heap.size w0 w13)); have n2_ := Aside0.mk (Kept.of_grown (S := (fun k_ => P0_ k_)) hg (by repeat (first | (with_reducible first | exact HK.out | apply Kept.alloc | apply Kept.drewN | apply Kept.drew) | exact HK.out)) (fun k_ e_ => (HO_0.out.1 k_ e_))); clear HO_0; clear HB; clear HK; have HO_0 := n0_; have HB := n1_; have HK := n2_; clear n0_ n1_ n2_; clear hg hw hp_))
                      go_roundg k2
                      case measure => have := HK1.out; have := HK2.out; omega
                      case rel => exact ⟨(y398), (wrap64 (x1_2 + 1)), (wrap64 (x13_2 + 1)), (by first | rfl | (simp; done) | (simp [*]; done)), (by first | rfl | (simp; done) | (simp [*]; done)), H', ⟨by have := HK1.out; have := HK2.out; omega⟩, ⟨by (with_reducible repeat (first | apply Kd.R_alloc | apply Kd.R_drewN | apply Kd.R_drew)); exact HO_0.out⟩, ⟨by repeat (first | (with_reducible first | exact HK.out | apply Kept.alloc | apply Kept.drewN | apply Kept.drew) | exact HK.out)⟩, ⟨by repeat (first | (with_reducible first | exact HB.out | apply below_alloc | apply pw_below_drewN | apply below_drew1) | exact HB.out)⟩⟩
                    · rw [if_neg c10] at H
                      exact absurd H (by simp)
                  · rw [if_neg c9] at H
                    exact absurd H (by simp)
                · rw [if_neg c8] at H
                  have c8b0 : decide (x13_2 < (rd l2 x17_1)) = false := decide_eq_false c8
                  clear c8
                  have H' := Aside0.mk H
                  clear H
                  go_wp2
                  go_roundg k2
                  case measure => have := HK1.out; have := HK2.out; omega
                  case rel => exact ⟨(x0_2), (x1_2), (!x9_1), (wrap64 (x10_1 + (rd l2 x17_1))), (wrap64 (x17_1 + 1)), (by first | rfl | (simp; done) | (simp [*]; done)), (by first | rfl | (simp; done) | (simp [*]; done)), (by first | rfl | (simp; done) | (simp [*]; done)), (by first | rfl | (simp; done) | (simp [*]; done)), H', ⟨by have := HK1.out; have := HK2.out; omega⟩, ⟨by (with_reducible repeat (first | apply Kd.R_alloc | apply Kd.R_drewN | apply Kd.R_drew)); exact HO_0.out⟩, ⟨by repeat (first | (with_reducible first | exact HK.out | apply Kept.alloc | apply Kept.drewN | apply Kept.drew) | exact HK.out)⟩, ⟨by repeat (first | (with_reducible first | exact HB.out | apply below_alloc | apply pw_below_drewN | apply below_drew1) | exact HB.out)⟩⟩
          · rw [if_neg c7] at H
            exact absurd H (by simp)
        · rw [if_neg c6] at H
          exact absurd H (by simp)
      · rw [if_neg c5] at H
        have c5b0 : decide (x17_1 < (l2.length : Int)) = false := decide_eq_false c5
        clear c5
        simp only [Option.some.injEq, Prod.mk.injEq] at H
        obtain ⟨rfl, rfl⟩ := H
        go_wp2
        go_ret
        exact ⟨by first | rfl | (simp [errW_none, errW_some] <;> rfl) | (simp [*, errW_none, errW_some] <;> rfl), by (with_reducible repeat (first | apply Kd.R_alloc | apply Kd.R_drewN | apply Kd.R_drew)); exact HO_0.out, by repeat (first | (with_reducible first | exact HB.out | apply below_alloc | apply pw_below_drewN | apply below_drew1) | exact HB.out), by repeat (first | (with_reducible first | exact HK.out | apply Kept.alloc | apply Kept.drewN | apply Kept.drew) | exact HK.out)⟩

-- NOT PRINTED: function 162 (oned_onedWriter_checkNumeric)

/-! ### oned_zzIndex: function 142 -/
def oned_zzIndex.l0 : Nat → ByteArray → ByteArray → Int → Option (Int)
  | 0, _, _, _ => none
  | k + 1, x0, x1, x5 => if (wrap64 (x5 + (x1.size : Int))) ≤ (x0.size : Int) then (if 0 ≤ x5 then (if x5 ≤ (wrap64 (x5 + (x1.size : Int))) then (if (x0.extract (x5 : Int).toNat ((wrap64 (x5 + (x1.size : Int))) : Int).toNat).toList = x1.toList then (some x5) else (oned_zzIndex.l0 k x0 x1 (wrap64 (x5 + 1)))) else (none)) else (none)) else (some (-1))
def oned_zzIndex.f (k : Nat) (a0 : ByteArray) (a1 : ByteArray) : Option (Int) := oned_zzIndex.l0 k a0 a1 0
theorem oned_zzIndex.mono_l : ∀ k, (∀ y0 y1 y2, LeO (oned_zzIndex.l0 k y0 y1 y2) (oned_zzIndex.l0 (k + 1) y0 y1 y2))
  | 0 => fun _ _ _ r h => by simp [oned_zzIndex.l0] at h
  | k + 1 => by
    have ih0 := oned_zzIndex.mono_l k
    · intro y0 y1 y2
      unfold oned_zzIndex.l0
      repeat' first
      | (with_reducible exact ih0 _ _ _)
      | (with_reducible exact LeO.refl _)
      | (with_reducible exact LeO.none _)
      | (with_reducible refine LeO.ite ?_ ?_)
      | (with_reducible refine LeO.bind ?_ (fun _ => ?_))
      | exact ih0 _ _ _
      | exact LeO.none _
      | refine LeO.ite ?_ ?_
      | refine LeO.bind ?_ (fun _ => ?_)
theorem oned_zzIndex.mono : ∀ a0 a1 k, LeO (oned_zzIndex.f k a0 a1) (oned_zzIndex.f (k + 1) a0 a1) := by
  intro a0 a1 k
  have ih0 := oned_zzIndex.mono_l k
  unfold oned_zzIndex.f
  repeat' first
      | (with_reducible exact ih0 _ _ _)
      | (with_reducible exact LeO.refl _)
      | (with_reducible exact LeO.none _)
      | (with_reducible refine LeO.ite ?_ ?_)
      | (with_reducible refine LeO.bind ?_ (fun _ => ?_))
      | exact ih0 _ _ _
      | exact LeO.none _
      | refine LeO.ite ?_ ?_
      | refine LeO.bind ?_ (fun _ => ?_)
set_option maxHeartbeats 8000000 in
set_option maxRecDepth 100000 in
theorem oned_zzIndex.calls (k : Nat) (a0 : ByteArray) (a1 : ByteArray) (r : Int) (w : World) (h : oned_zzIndex.f k a0 a1 = some r) :
    Calls Tryz.prog 142 #[.string a0, .string a1] w fun e w' => e = .returned (.int .i64 r) ∧ Drawn0 w w' := by
  have H : (oned_zzIndex.l0 k a0 a1 0) = some r := h
  clear h
  have H' := Aside0.mk H
  clear H
  go_enter Tryz.func142, Tryz.ntmps142
  go_wp2
  go_loopg [5] k (fun kq v5 w' => ∃ (x5_1 : Int), v5 = .int .i64 x5_1 ∧ Aside0 (oned_zzIndex.l0 kq a0 a1 x5_1 = some r) ∧ Aside0 (kq ≤ k) ∧ Drawn0 w w')
  case atStart => exact ⟨(0), (by first | rfl | (simp; done) | (simp [*]; done)), H', ⟨Nat.le_refl _⟩, by repeat (first | exact Drawn0.refl _ | apply Drawn0.step)⟩
  case round =>
    clear H'
    try clear c1
    try clear p2
    obtain ⟨x5_1, rfl, HA, HK1, ⟨m1, rfl⟩⟩ := hrel
    cases gk with
    | zero => exact absurd HA.out (by simp [oned_zzIndex.l0])
    | succ k1 =>
      have H := HA.out
      clear HA
      simp only [oned_zzIndex.l0] at H
      by_cases c3 : (wrap64 (x5_1 + (a1.size : Int))) ≤ (a0.size : Int)
      · rw [if_pos c3] at H
        have c3b0 : decide ((wrap64 (x5_1 + (a1.size : Int))) ≤ (a0.size : Int)) = true := decide_eq_true c3
        clear c3
        by_cases c4 : 0 ≤ x5_1
        · rw [if_pos c4] at H
          have c4b0 := eq_true c4
          have c4b1 : decide (0 ≤ x5_1) = true := decide_eq_true c4
          clear c4
          by_cases c5 : x5_1 ≤ (wrap64 (x5_1 + (a1.size : Int)))
          · rw [if_pos c5] at H
            have c5b0 := eq_true c5
            have c5b1 : decide (x5_1 ≤ (wrap64 (x5_1 + (a1.size : Int)))) = true := decide_eq_true c5
            have c6b0 := eq_true (of_decide_eq_true (by first | (with_reducible assumption) | assumption) : (wrap64 (x5_1 + (a1.size : Int))) ≤ (a0.size : Int))
            by_cases c7 : (a0.extract (x5_1 : Int).toNat ((wrap64 (x5_1 + (a1.size : Int))) : Int).toNat).toList = a1.toList
            · rw [if_pos c7] at H
              have c7b0 : ((a0.extract (x5_1 : Int).toNat ((wrap64 (x5_1 + (a1.size : Int))) : Int).toNat).toList == a1.toList) = true := beq_iff_eq.mpr c7
              have c7b1 : ((a0.extract (x5_1 : Int).toNat ((wrap64 (x5_1 + (a1.size : Int))) : Int).toNat).toList != a1.toList) = false := bne_eq_false_iff_eq.mpr c7
              clear c7
              obtain rfl := Option.some.inj H
              go_wp2
              go_ret
              exact ⟨by first | rfl | (simp; done) | (simp [*]; done), by repeat (first | exact Drawn0.refl _ | apply Drawn0.step)⟩
            · rw [if_neg c7] at H
              have c7b0 : ((a0.extract (x5_1 : Int).toNat ((wrap64 (x5_1 + (a1.size : Int))) : Int).toNat).toList == a1.toList) = false := beq_eq_false_iff_ne.mpr c7
              have c7b1 : ((a0.extract (x5_1 : Int).toNat ((wrap64 (x5_1 + (a1.size : Int))) : Int).toNat).toList != a1.toList) = true := bne_iff_ne.mpr c7
              have H' := Aside0.mk H
              clear H
              go_wp2
              go_roundg k1
              case measure => have := HK1.out; omega
              case rel => exact ⟨(wrap64 (x5_1 + 1)), (by first | rfl | (simp; done) | (simp [*]; done)), H', ⟨by have := HK1.out; omega⟩, by repeat (first | exact Drawn0.refl _ | apply Drawn0.step)⟩
          · rw [if_neg c5] at H
            exact absurd H (by simp)
        · rw [if_neg c4] at H
          exact absurd H (by simp)
      · rw [if_neg c3] at H
        have c3b0 : decide ((wrap64 (x5_1 + (a1.size : Int))) ≤ (a0.size : Int)) = false := decide_eq_false c3
        clear c3
        obtain rfl := Option.some.inj H
        go_wp2
        go_ret
        exact ⟨by first | rfl | (simp; done) | (simp [*]; done), by repeat (first | exact Drawn0.refl _ | apply Drawn0.step)⟩

-- NOT PRINTED: function 143 (oned_code39TryToConvertToExtendedMode)

/-! ### oned_code39ToIntArray: function 144 -/
def oned_code39ToIntArray.l0 : Nat → Int → List Int → Int → Option (List Int)
  | 0, _, _, _ => none
  | k + 1, x0, x1, x4 => if x4 < 9 then (if 0 ≤ (IntKind.u64.wrap (wrap64 (8 - x4))) then (if (Go.bits .and .i64 x0 (shl .i64 1 (IntKind.u64.wrap (wrap64 (8 - x4))))) = 0 then (if 0 ≤ x4 then (if x4 < (x1.length : Int) then (oned_code39ToIntArray.l0 k x0 (x1.set (x4 : Int).toNat 1) (wrap64 (x4 + 1))) else (none)) else (none)) else (if 0 ≤ x4 then (if x4 < (x1.length : Int) then (oned_code39ToIntArray.l0 k x0 (x1.set (x4 : Int).toNat 2) (wrap64 (x4 + 1))) else (none)) else (none))) else (none)) else (some x1)
def oned_code39ToIntArray.f (k : Nat) (a0 : Int) (l1 : List Int) : Option (List Int) := oned_code39ToIntArray.l0 k a0 l1 0
theorem oned_code39ToIntArray.mono_l : ∀ k, (∀ y0 y1 y2, LeO (oned_code39ToIntArray.l0 k y0 y1 y2) (oned_code39ToIntArray.l0 (k + 1) y0 y1 y2))
  | 0 => fun _ _ _ r h => by simp [oned_code39ToIntArray.l0] at h
  | k + 1 => by
    have ih0 := oned_code39ToIntArray.mono_l k
    · intro y0 y1 y2
      unfold oned_code39ToIntArray.l0
      repeat' first
      | (with_reducible exact ih0 _ _ _)
      | (with_reducible exact LeO.refl _)
      | (with_reducible exact LeO.none _)
      | (with_reducible refine LeO.ite ?_ ?_)
      | (with_reducible refine LeO.bind ?_ (fun _ => ?_))
      | exact ih0 _ _ _
      | exact LeO.none _
      | refine LeO.ite ?_ ?_
      | refine LeO.bind ?_ (fun _ => ?_)
theorem oned_code39ToIntArray.mono : ∀ a0 a1 k, LeO (oned_code39ToIntArray.f k a0 a1) (oned_code39ToIntArray.f (k + 1) a0 a1) := by
  intro a0 a1 k
  have ih0 := oned_code39ToIntArray.mono_l k
  unfold oned_code39ToIntArray.f
  repeat' first
      | (with_reducible exact ih0 _ _ _)
      | (with_reducible exact LeO.refl _)
      | (with_reducible exact LeO.none _)
      | (with_reducible refine LeO.ite ?_ ?_)
      | (with_reducible refine LeO.bind ?_ (fun _ => ?_))
      | exact ih0 _ _ _
      | exact LeO.none _
      | refine LeO.ite ?_ ?_
      | refine LeO.bind ?_ (fun _ => ?_)
set_option maxHeartbeats 8000000 in
set_option maxRecDepth 100000 in
theorem oned_code39ToIntArray.calls (k : Nat) (a0 : Int) (P1_ : Nat → Prop) (u9000_ : Value) (l1 : List Int) (r : List Int) (w0 w : World) (hB : Below w0.heap.size w0 w) (ho1 : Kd.R (Kd.int .i64) 3 w w0.heap.size P1_ u9000_ l1) (h : oned_code39ToIntArray.f k a0 l1 = some r) :
    Calls Tryz.prog 144 #[.int .i64 a0, u9000_] w fun e w' => e = .returned (.tuple #[]) ∧ Kd.R (Kd.int .i64) 3 w' w0.heap.size (fun k_ => (P1_ k_ ∨ w.heap.size ≤ k_)) u9000_ r ∧ Below w0.heap.size w0 w' ∧ Kept w w' (fun k_ => P1_ k_) := by
  have HO1 := Aside0.mk (show Kd.R (Kd.int .i64) 3 w w0.heap.size (fun k_ => (P1_ k_ ∨ w.heap.size ≤ k_)) u9000_ l1 from Kd.R_mono ho1 (fun k_ hk => (.inl hk)))
  have HK := Aside0.mk (Kept.refl w (fun k_ => P1_ k_))
  have HW0 := Aside0.mk hB.size
  have HB := Aside0.mk hB
  clear hB
  have H : (oned_code39ToIntArray.l0 k a0 l1 0) = some r := h
  clear h
  have H' := Aside0.mk H
  clear H
  go_enter Tryz.func144, Tryz.ntmps144
  go_wp2
  go_loopg [4] k (fun kq v4 w' => ∃ (x1_1 : List Int) (x4_1 : Int), v4 = .int .i64 x4_1 ∧ Aside0 (oned_code39ToIntArray.l0 kq a0 x1_1 x4_1 = some r) ∧ Aside0 (kq ≤ k) ∧ Aside0 (Kd.R (Kd.int .i64) 3 w' w0.heap.size (fun k_ => (P1_ k_ ∨ w.heap.size ≤ k_)) u9000_ x1_1) ∧ Aside0 (Kept w w' (fun k_ => P1_ k_)) ∧ Aside0 (Below w0.heap.size w0 w'))
  case atStart => exact ⟨(l1), (0), (by first | rfl | (simp; done) | (simp [*]; done)), H', ⟨Nat.le_refl _⟩, ⟨by (with_reducible repeat (first | apply Kd.R_alloc | apply Kd.R_drewN | apply Kd.R_drew)); exact HO1.out⟩, ⟨by repeat (first | (with_reducible first | exact HK.out | apply Kept.alloc | apply Kept.drewN | apply Kept.drew) | exact HK.out)⟩, ⟨by repeat (first | (with_reducible first | exact HB.out | apply below_alloc | apply pw_below_drewN | apply below_drew1) | exact HB.out)⟩⟩
  case round =>
    clear H'
    try clear c1
    try clear p2
    obtain ⟨x1_1, x4_1, rfl, HA, HK1, HO_1, HK, HB⟩ := hrel
    cases gk with
    | zero => exact absurd HA.out (by simp [oned_code39ToIntArray.l0])
    | succ k1 =>
      have H := HA.out
      clear HA
      simp only [oned_code39ToIntArray.l0] at H
      by_cases c3 : x4_1 < 9
      · rw [if_pos c3] at H
        have c3b0 : decide (x4_1 < 9) = true := decide_eq_true c3
        clear c3
        obtain ⟨ji4, hji4⟩ : ∃ j_ : Int, (IntKind.u64.wrap (wrap64 (8 - x4_1))) = j_ := ⟨_, rfl⟩
        replace H : (if 0 ≤ (ji4) then (if (Go.bits .and .i64 a0 (shl .i64 1 (ji4))) = 0 then (if 0 ≤ x4_1 then (if x4_1 < (x1_1.length : Int) then (oned_code39ToIntArray.l0 k1 a0 (x1_1.set (x4_1 : Int).toNat 1) (wrap64 (x4_1 + 1))) else (none)) else (none)) else (if 0 ≤ x4_1 then (if x4_1 < (x1_1.length : Int) then (oned_code39ToIntArray.l0 k1 a0 (x1_1.set (x4_1 : Int).toNat 2) (wrap64 (x4_1 + 1))) else (none)) else (none))) else (none)) = some r := by first | (rw [hji4] at H; exact H) | (simp only [hji4] at H ⊢; exact H)
        by_cases c5 : 0 ≤ (ji4)
        · rw [if_pos c5] at H
          have c5b0 := eq_true c5
          have c5b1 : decide (0 ≤ (ji4)) = true := decide_eq_true c5
          clear c5
          obtain ⟨ji6, hji6⟩ : ∃ j_ : Int, (shl .i64 1 (ji4)) = j_ := ⟨_, rfl⟩
          replace H : (if (Go.bits .and .i64 a0 (ji6)) = 0 then (if 0 ≤ x4_1 then (if x4_1 < (x1_1.length : Int) then (oned_code39ToIntArray.l0 k1 a0 (x1_1.set (x4_1 : Int).toNat 1) (wrap64 (x4_1 + 1))) else (none)) else (none)) else (if 0 ≤ x4_1 then (if x4_1 < (x1_1.length : Int) then (oned_code39ToIntArray.l0 k1 a0 (x1_1.set (x4_1 : Int).toNat 2) (wrap64 (x4_1 + 1))) else (none)) else (none))) = some r := by first | (rw [hji6] at H; exact H) | (simp only [hji6] at H ⊢; exact H)
          have hji6_ : (IntKind.i64.wrap (1 * 2 ^ min (ji4).toNat 64)) = ji6 := hji6
          have hji6z : (ji4) ≤ 64 → (IntKind.i64.wrap (1 * 2 ^ (ji4).toNat)) = ji6 := shl_small hji6
          have hji6u : (IntKind.i64.wrap (2 ^ min (ji4).toNat 64)) = ji6 := by have h_ := hji6_; rw [Int.one_mul] at h_; exact h_
          have hji6v : (ji4) ≤ 64 → (IntKind.i64.wrap (2 ^ (ji4).toNat)) = ji6 := fun hle_ => by have h_ := hji6z hle_; rw [Int.one_mul] at h_; exact h_
          have hji6y : (wrap64 (1 * 2 ^ min (ji4).toNat 64)) = ji6 := (i64_w _).symm.trans hji6_
          have hji6x : (ji4) ≤ 64 → (wrap64 (1 * 2 ^ (ji4).toNat)) = ji6 := fun h_ => (i64_w _).symm.trans (hji6z h_)
          by_cases c7 : (Go.bits .and .i64 a0 (ji6)) = 0
          · rw [if_pos c7] at H
            have c7b0 : ((Go.bits .and .i64 a0 (ji6)) == 0) = true := beq_iff_eq.mpr c7
            have c7b1 : ((Go.bits .and .i64 a0 (ji6)) != 0) = false := bne_eq_false_iff_eq.mpr c7
            clear c7
            by_cases c8 : 0 ≤ x4_1
            · rw [if_pos c8] at H
              have c8b0 : decide (0 ≤ x4_1) = true := decide_eq_true c8
              clear c8
              by_cases c9 : x4_1 < (x1_1.length : Int)
              · rw [if_pos c9] at H
                have c9b0 : decide (x4_1 < (x1_1.length : Int)) = true := decide_eq_true c9
                clear c9
                obtain ⟨y523, hy523⟩ : ∃ y_ : List Int, y_ = (x1_1.set (x4_1 : Int).toNat 1) := ⟨_, rfl⟩
                replace H : (oned_code39ToIntArray.l0 k1 a0 y523 (wrap64 (x4_1 + 1))) = some r := by first | (rw [hy523]; with_reducible exact H) | (have H2_ := (Option.bind_some _ _).symm.trans H; rw [hy523]; with_reducible exact H2_) | (have H2_ := (Option.bind_some _ _).symm.trans H; with_reducible exact H2_) | with_reducible exact H | (rw [hy523]; exact H) | exact H
                have Ny523 := Aside0.mk hy523
                clear hy523
                have H' := Aside0.mk H
                clear H
                have p10 : 0 ≤ (x4_1 : Int) := of_decide_eq_true (by first | (with_reducible assumption) | assumption)
                have q10 : (x4_1 : Int) < ((x1_1.length : Int) : Int) := of_decide_eq_true (by first | (with_reducible assumption) | assumption)
                obtain ⟨go10, co10, eo10, gb10, gl10, cl10, HG10⟩ := Kd.R_form HO_1.out (by omega)
                (first | cases eo10 | (injection eo10 with ea_ en_ ec_; (first | subst ea_ | (injection ea_ with ea_; subst ea_)); subst ec_; clear en_))
                have GB10 := Aside0.mk gb10
                have GG10 := Aside0.mk HG10
                clear gb10 gl10 HG10
                have HMgo10 := Aside0.mk (show (P1_ go10 ∨ w.heap.size ≤ go10) from (HO_1.out.1 _ rfl))
                obtain ⟨hx10_0, hf10_0⟩ := Kd.R_celln 0 HO_1.out (x4_1 : Int) p10 q10
                replace p10 := eq_true p10
                replace q10 := eq_true q10
                have HP11 := Kd.R_putg HO_1.out (x4_1 : Int) 1
                go_wp2_with (first | ((with_reducible refine gate_store (t := 3) (p := 20) rfl ?_); refine store_event (t := 3) (p := 20) (v := ?vo_w12) (w1 := (wr.setCell ⟨go10, (x4_1 : Int).toNat, none⟩ (.int .i64 1))) ?hg ?ho ?hn ?hr ?_; (case ho => rfl); (case hg => rfl); (case hn => rfl); (case hr => first | (go_simp; done) | (go_simp; rfl)); intro w12 hw; have hg : wr.grownBy w12 (some go10) := (by rw [hw]; exact HP11.2); have hp_ : Kd.R (Kd.int .i64) 3 w12 w0.heap.size (fun k_ => (P1_ k_ ∨ w.heap.size ≤ k_)) (.slice (some ⟨go10, 0, none⟩) x1_1.length co10) y523 := (by rw [hw, Ny523.out]; exact HP11.1); clear HP11; have n0_ := Aside0.mk (hp_); have n1_ := Aside0.mk ((by rw [hw]; exact below_set (HB.out) GB10.out : Below w0.heap.size w0 w12)); have n2_ := Aside0.mk (Kept.of_grown (S := (fun k_ => P1_ k_)) hg (by repeat (first | (with_reducible first | exact HK.out | apply Kept.alloc | apply Kept.drewN | apply Kept.drew) | exact HK.out)) (fun k_ e_ => (HO_1.out.1 k_ e_))); clear HO_1; clear HB; clear HK; have HO_1 := n0_; have HB := n1_; have HK := n2_; clear n0_ n1_ n2_; clear hg hw hp_))
                go_roundg k1
                case measure => have := HK1.out; omega
                case rel => exact ⟨(y523), (wrap64 (x4_1 + 1)), (by first | rfl | (simp; done) | (simp [*]; done)), H', ⟨by have := HK1.out; omega⟩, ⟨by (with_reducible repeat (first | apply Kd.R_alloc | apply Kd.R_drewN | apply Kd.R_drew)); exact HO_1.out⟩, ⟨by repeat (first | (with_reducible first | exact HK.out | apply Kept.alloc | apply Kept.drewN | apply Kept.drew) | exact HK.out)⟩, ⟨by repeat (first | (with_reducible first | exact HB.out | apply below_alloc | apply pw_below_drewN | apply below_drew1) | exact HB.out)⟩⟩
              · rw [if_neg c9] at H
                exact absurd H (by simp)
            · rw [if_neg c8] at H
              exact absurd H (by simp)
          · rw [if_neg c7] at H
            have c7b0 : ((Go.bits .and .i64 a0 (ji6)) == 0) = false := beq_eq_false_iff_ne.mpr c7
            have c7b1 : ((Go.bits .and .i64 a0 (ji6)) != 0) = true := bne_iff_ne.mpr c7
            by_cases c13 : 0 ≤ x4_1
            · rw [if_pos c13] at H
              have c13b0 : decide (0 ≤ x4_1) = true := decide_eq_true c13
              clear c13
              by_cases c14 : x4_1 < (x1_1.length : Int)
              · rw [if_pos c14] at H
                have c14b0 : decide (x4_1 < (x1_1.length : Int)) = true := decide_eq_true c14
                clear c14
                obtain ⟨y524, hy524⟩ : ∃ y_ : List Int, y_ = (x1_1.set (x4_1 : Int).toNat 2) := ⟨_, rfl⟩
                replace H : (oned_code39ToIntArray.l0 k1 a0 y524 (wrap64 (x4_1 + 1))) = some r := by first | (rw [hy524]; with_reducible exact H) | (have H2_ := (Option.bind_some _ _).symm.trans H; rw [hy524]; with_reducible exact H2_) | (have H2_ := (Option.bind_some _ _).symm.trans H; with_reducible exact H2_) | with_reducible exact H | (rw [hy524]; exact H) | exact H
                have Ny524 := Aside0.mk hy524
                clear hy524
                have H' := Aside0.mk H
                clear H
                have p15 : 0 ≤ (x4_1 : Int) := of_decide_eq_true (by first | (with_reducible assumption) | assumption)
                have q15 : (x4_1 : Int) < ((x1_1.length : Int) : Int) := of_decide_eq_true (by first | (with_reducible assumption) | assumption)
                obtain ⟨go15, co15, eo15, gb15, gl15, cl15, HG15⟩ := Kd.R_form HO_1.out (by omega)
                (first | cases eo15 | (injection eo15 with ea_ en_ ec_; (first | subst ea_ | (injection ea_ with ea_; subst ea_)); subst ec_; clear en_))
                have GB15 := Aside0.mk gb15
                have GG15 := Aside0.mk HG15
                clear gb15 gl15 HG15
                have HMgo15 := Aside0.mk (show (P1_ go15 ∨ w.heap.size ≤ go15) from (HO_1.out.1 _ rfl))
                obtain ⟨hx15_0, hf15_0⟩ := Kd.R_celln 0 HO_1.out (x4_1 : Int) p15 q15
                replace p15 := eq_true p15
                replace q15 := eq_true q15
                have HP16 := Kd.R_putg HO_1.out (x4_1 : Int) 2
                go_wp2_with (first | ((with_reducible refine gate_store (t := 3) (p := 23) rfl ?_); refine store_event (t := 3) (p := 23) (v := ?vo_w17) (w1 := (wr.setCell ⟨go15, (x4_1 : Int).toNat, none⟩ (.int .i64 2))) ?hg ?ho ?hn ?hr ?_; (case ho => rfl); (case hg => rfl); (case hn => rfl); (case hr => first | (go_simp; done) | (go_simp; rfl)); intro w17 hw; have hg : wr.grownBy w17 (some go15) := (by rw [hw]; exact HP16.2); have hp_ : Kd.R (Kd.int .i64) 3 w17 w0.heap.size (fun k_ => (P1_ k_ ∨ w.heap.size ≤ k_)) (.slice (some ⟨go15, 0, none⟩) x1_1.length co15) y524 := (by rw [hw, Ny524.out]; exact HP16.1); clear HP16; have n0_ := Aside0.mk (hp_); have n1_ := Aside0.mk ((by rw [hw]; exact below_set (HB.out) GB15.out : Below w0.heap.size w0 w17)); have n2_ := Aside0.mk (Kept.of_grown (S := (fun k_ => P1_ k_)) hg (by repeat (first | (with_reducible first | exact HK.out | apply Kept.alloc | apply Kept.drewN | apply Kept.drew) | exact HK.out)) (fun k_ e_ => (HO_1.out.1 k_ e_))); clear HO_1; clear HB; clear HK; have HO_1 := n0_; have HB := n1_; have HK := n2_; clear n0_ n1_ n2_; clear hg hw hp_))
                go_roundg k1
                case measure => have := HK1.out; omega
                case rel => exact ⟨(y524), (wrap64 (x4_1 + 1)), (by first | rfl | (simp; done) | (simp [*]; done)), H', ⟨by have := HK1.out; omega⟩, ⟨by (with_reducible repeat (first | apply Kd.R_alloc | apply Kd.R_drewN | apply Kd.R_drew)); exact HO_1.out⟩, ⟨by repeat (first | (with_reducible first | exact HK.out | apply Kept.alloc | apply Kept.drewN | apply Kept.drew) | exact HK.out)⟩, ⟨by repeat (first | (with_reducible first | exact HB.out | apply below_alloc | apply pw_below_drewN | apply below_drew1) | exact HB.out)⟩⟩
              · rw [if_neg c14] at H
                exact absurd H (by simp)
            · rw [if_neg c13] at H
              exact absurd H (by simp)
        · rw [if_neg c5] at H
          exact absurd H (by simp)
      · rw [if_neg c3] at H
        have c3b0 : decide (x4_1 < 9) = false := decide_eq_false c3
        clear c3
        obtain rfl := Option.some.inj H
        go_wp2
        first | go_end0 | ((try simp only [Exit.inBlock, Exit.then]); refine bodyPost_ret (results_none rfl _ _ _) rfl ?_)
        exact ⟨by first | rfl | (simp [errW_none, errW_some] <;> rfl) | (simp [*, errW_none, errW_some] <;> rfl), by (with_reducible repeat (first | apply Kd.R_alloc | apply Kd.R_drewN | apply Kd.R_drew)); exact HO_1.out, by repeat (first | (with_reducible first | exact HB.out | apply below_alloc | apply pw_below_drewN | apply below_drew1) | exact HB.out), by repeat (first | (with_reducible first | exact HK.out | apply Kept.alloc | apply Kept.drewN | apply Kept.drew) | exact HK.out)⟩

/-! ### oned_code39CharacterEncodings: function 146 -/
def oned_code39CharacterEncodings.f  : Option (List Int) := some (([52, 289, 97, 352, 49, 304, 112, 37, 292, 100, 265, 73, 328, 25, 280, 88, 13, 268, 76, 28, 259, 67, 322, 19, 274, 82, 7, 262, 70, 22, 385, 193, 448, 145, 400, 208, 133, 388, 196, 168, 162, 138, 42] : List Int))
set_option maxHeartbeats 8000000 in
set_option maxRecDepth 100000 in
theorem oned_code39CharacterEncodings.calls  (r : List Int) (w : World) (h : oned_code39CharacterEncodings.f  = some r) :
    Calls Tryz.prog 146 #[] w fun e w' => ∃ v0_ : Value, e = .returned (v0_) ∧ Kd.R (Kd.int .i64) 3 w' w.heap.size (fun _ => True) v0_ r ∧ Below w.heap.size w w' := by
  have HB := Aside0.mk (Below.refl w.heap.size w)
  have H : (some (([52, 289, 97, 352, 49, 304, 112, 37, 292, 100, 265, 73, 328, 25, 280, 88, 13, 268, 76, 28, 259, 67, 322, 19, 274, 82, 7, 262, 70, 22, 385, 193, 448, 145, 400, 208, 133, 388, 196, 168, 162, 138, 42] : List Int))) = some r := h
  clear h
  obtain ⟨y525, hy525⟩ : ∃ y_ : List Int, y_ = (([52, 289, 97, 352, 49, 304, 112, 37, 292, 100, 265, 73, 328, 25, 280, 88, 13, 268, 76, 28, 259, 67, 322, 19, 274, 82, 7, 262, 70, 22, 385, 193, 448, 145, 400, 208, 133, 388, 196, 168, 162, 138, 42] : List Int)) := ⟨_, rfl⟩
  replace H : (some y525) = some r := by first | (rw [hy525]; with_reducible exact H) | (have H2_ := (Option.bind_some _ _).symm.trans H; rw [hy525]; with_reducible exact H2_) | (have H2_ := (Option.bind_some _ _).symm.trans H; with_reducible exact H2_) | with_reducible exact H | (rw [hy525]; exact H) | exact H
  have Ny525 := Aside0.mk hy525
  clear hy525
  obtain rfl := Option.some.inj H
  go_enter Tryz.func146, Tryz.ntmps146
  go_wp2_with (first | ((with_reducible refine gate_dst (N := 1) rfl ?_); refine Kd.R_lit (Kd.int .i64) _ 3 ?hg (N := 1) ?hd (xs := ([52, 289, 97, 352, 49, 304, 112, 37, 292, 100, 265, 73, 328, 25, 280, 88, 13, 268, 76, 28, 259, 67, 322, 19, 274, 82, 7, 262, 70, 22, 385, 193, 448, 145, 400, 208, 133, 388, 196, 168, 162, 138, 42] : List Int)) (inner := [.int .i64 52, .int .i64 289, .int .i64 97, .int .i64 352, .int .i64 49, .int .i64 304, .int .i64 112, .int .i64 37, .int .i64 292, .int .i64 100, .int .i64 265, .int .i64 73, .int .i64 328, .int .i64 25, .int .i64 280, .int .i64 88, .int .i64 13, .int .i64 268, .int .i64 76, .int .i64 28, .int .i64 259, .int .i64 67, .int .i64 322, .int .i64 19, .int .i64 274, .int .i64 82, .int .i64 7, .int .i64 262, .int .i64 70, .int .i64 22, .int .i64 385, .int .i64 193, .int .i64 448, .int .i64 145, .int .i64 400, .int .i64 208, .int .i64 133, .int .i64 388, .int .i64 196, .int .i64 168, .int .i64 162, .int .i64 138, .int .i64 42]) (ok := fun _ => True) (okp := fun _ => True) ?hr ?hp (fun _ hk => hk) trivial (Below.refl _ _) (Nat.le_refl _) (by simp) ?_; (case hd => rfl); (case hg => rfl); (case hr => first | (go_simp; done) | (go_simp; rfl)); (case hp => exact (Reps.one (show Kd.M (Kd.int .i64) _ _ _ 52 [.int .i64 52] from rfl) (Reps.one (show Kd.M (Kd.int .i64) _ _ _ 289 [.int .i64 289] from rfl) (Reps.one (show Kd.M (Kd.int .i64) _ _ _ 97 [.int .i64 97] from rfl) (Reps.one (show Kd.M (Kd.int .i64) _ _ _ 352 [.int .i64 352] from rfl) (Reps.one (show Kd.M (Kd.int .i64) _ _ _ 49 [.int .i64 49] from rfl) (Reps.one (show Kd.M (Kd.int .i64) _ _ _ 304 [.int .i64 304] from rfl) (Reps.one (show Kd.M (Kd.int .i64) _ _ _ 112 [.int .i64 112] from rfl) (Reps.one (show Kd.M (Kd.int .i64) _ _ _ 37 [.int .i64 37] from rfl) (Reps.one (show Kd.M (Kd.int .i64) _ _ _ 292 [.int .i64 292] from rfl) (Reps.one (show Kd.M (Kd.int .i64) _ _ _ 100 [.int .i64 100] from rfl) (Reps.one (show Kd.M (Kd.int .i64) _ _ _ 265 [.int .i64 265] from rfl) (Reps.one (show Kd.M (Kd.int .i64) _ _ _ 73 [.int .i64 73] from rfl) (Reps.one (show Kd.M (Kd.int .i64) _ _ _ 328 [.int .i64 328] from rfl) (Reps.one (show Kd.M (Kd.int .i64) _ _ _ 25 [.int .i64 25] from rfl) (Reps.one (show Kd.M (Kd.int .i64) _ _ _ 280 [.int .i64 280] from rfl) (Reps.one (show Kd.M (Kd.int .i64) _ _ _ 88 [.int .i64 88] from rfl) (Reps.one (show Kd.M (Kd.int .i64) _ _ _ 13 [.int .i64 13] from rfl) (Reps.one (show Kd.M (Kd.int .i64) _ _ _ 268 [.int .i64 268] from rfl) (Reps.one (show Kd.M (Kd.int .i64) _ _ _ 76 [.int .i64 76] from rfl) (Reps.one (show Kd.M (Kd.int .i64) _ _ _ 28 [.int .i64 28] from rfl) (Reps.one (show Kd.M (Kd.int .i64) _ _ _ 259 [.int .i64 259] from rfl) (Reps.one (show Kd.M (Kd.int .i64) _ _ _ 67 [.int .i64 67] from rfl) (Reps.one (show Kd.M (Kd.int .i64) _ _ _ 322 [.int .i64 322] from rfl) (Reps.one (show Kd.M (Kd.int .i64) _ _ _ 19 [.int .i64 19] from rfl) (Reps.one (show Kd.M (Kd.int .i64) _ _ _ 274 [.int .i64 274] from rfl) (Reps.one (show Kd.M (Kd.int .i64) _ _ _ 82 [.int .i64 82] from rfl) (Reps.one (show Kd.M (Kd.int .i64) _ _ _ 7 [.int .i64 7] from rfl) (Reps.one (show Kd.M (Kd.int .i64) _ _ _ 262 [.int .i64 262] from rfl) (Reps.one (show Kd.M (Kd.int .i64) _ _ _ 70 [.int .i64 70] from rfl) (Reps.one (show Kd.M (Kd.int .i64) _ _ _ 22 [.int .i64 22] from rfl) (Reps.one (show Kd.M (Kd.int .i64) _ _ _ 385 [.int .i64 385] from rfl) (Reps.one (show Kd.M (Kd.int .i64) _ _ _ 193 [.int .i64 193] from rfl) (Reps.one (show Kd.M (Kd.int .i64) _ _ _ 448 [.int .i64 448] from rfl) (Reps.one (show Kd.M (Kd.int .i64) _ _ _ 145 [.int .i64 145] from rfl) (Reps.one (show Kd.M (Kd.int .i64) _ _ _ 400 [.int .i64 400] from rfl) (Reps.one (show Kd.M (Kd.int .i64) _ _ _ 208 [.int .i64 208] from rfl) (Reps.one (show Kd.M (Kd.int .i64) _ _ _ 133 [.int .i64 133] from rfl) (Reps.one (show Kd.M (Kd.int .i64) _ _ _ 388 [.int .i64 388] from rfl) (Reps.one (show Kd.M (Kd.int .i64) _ _ _ 196 [.int .i64 196] from rfl) (Reps.one (show Kd.M (Kd.int .i64) _ _ _ 168 [.int .i64 168] from rfl) (Reps.one (show Kd.M (Kd.int .i64) _ _ _ 162 [.int .i64 162] from rfl) (Reps.one (show Kd.M (Kd.int .i64) _ _ _ 138 [.int .i64 138] from rfl) (Reps.one (show Kd.M (Kd.int .i64) _ _ _ 42 [.int .i64 42] from rfl) (Reps.none _ _))))))))))))))))))))))))))))))))))))))))))))); intro v526 w1 ho2 hb hg_ hnew_; clear hg_ hnew_; (first | rw [← Ny525.out] at ho2 | (simp only [Int.reduceToNat] at ho2; rw [← Ny525.out] at ho2)); have n0_ := Aside0.mk (Kd.R_lower ho2 (below_size (by repeat (first | (with_reducible first | exact HB.out | apply below_alloc | apply pw_below_drewN | apply below_drew1) | exact HB.out)))); have n1_ := Aside0.mk (below_step (by repeat (first | (with_reducible first | exact HB.out | apply below_alloc | apply pw_below_drewN | apply below_drew1) | exact HB.out)) hb); clear HB; have HO527 := n0_; have HB := n1_; clear n0_ n1_; clear hb ho2))
  go_ret
  exact ⟨_, by first | rfl | (simp [errW_none, errW_some] <;> rfl) | (simp [*, errW_none, errW_some] <;> rfl), by (with_reducible repeat (first | apply Kd.R_alloc | apply Kd.R_drewN | apply Kd.R_drew)); exact HO527.out, by repeat (first | (with_reducible first | exact HB.out | apply below_alloc | apply pw_below_drewN | apply below_drew1) | exact HB.out)⟩

-- NOT PRINTED: function 140 (oned_code39Encoder_encodeWithHints)

-- NOT PRINTED: function 149 (oned_code93ConvertToExtended)

/-! ### oned_code93AppendPattern: function 150 -/
def oned_code93AppendPattern.l0 : Nat → List Bool → Int → Int → Int → Option (Int × List Bool)
  | 0, _, _, _, _ => none
  | k + 1, x0, x1, x2, x7 => if x7 < 9 then (if 0 ≤ (IntKind.u64.wrap (wrap64 (8 - x7))) then (if 0 ≤ (wrap64 (x1 + x7)) then (if (wrap64 (x1 + x7)) < (x0.length : Int) then (oned_code93AppendPattern.l0 k (x0.set ((wrap64 (x1 + x7)) : Int).toNat ((Go.bits .and .i64 x2 (shl .i64 1 (IntKind.u64.wrap (wrap64 (8 - x7))))) != 0)) x1 x2 (wrap64 (x7 + 1))) else (none)) else (none)) else (none)) else (some (9, x0))
def oned_code93AppendPattern.f (k : Nat) (l0 : List Bool) (a1 : Int) (a2 : Int) : Option (Int × List Bool) := oned_code93AppendPattern.l0 k l0 a1 a2 0
theorem oned_code93AppendPattern.mono_l : ∀ k, (∀ y0 y1 y2 y3, LeO (oned_code93AppendPattern.l0 k y0 y1 y2 y3) (oned_code93AppendPattern.l0 (k + 1) y0 y1 y2 y3))
  | 0 => fun _ _ _ _ r h => by simp [oned_code93AppendPattern.l0] at h
  | k + 1 => by
    have ih0 := oned_code93AppendPattern.mono_l k
    · intro y0 y1 y2 y3
      unfold oned_code93AppendPattern.l0
      repeat' first
      | (with_reducible exact ih0 _ _ _ _)
      | (with_reducible exact LeO.refl _)
      | (with_reducible exact LeO.none _)
      | (with_reducible refine LeO.ite ?_ ?_)
      | (with_reducible refine LeO.bind ?_ (fun _ => ?_))
      | exact ih0 _ _ _ _
      | exact LeO.none _
      | refine LeO.ite ?_ ?_
      | refine LeO.bind ?_ (fun _ => ?_)
theorem oned_code93AppendPattern.mono : ∀ a0 a1 a2 k, LeO (oned_code93AppendPattern.f k a0 a1 a2) (oned_code93AppendPattern.f (k + 1) a0 a1 a2) := by
  intro a0 a1 a2 k
  have ih0 := oned_code93AppendPattern.mono_l k
  unfold oned_code93AppendPattern.f
  repeat' first
      | (with_reducible exact ih0 _ _ _ _)
      | (with_reducible exact LeO.refl _)
      | (with_reducible exact LeO.none _)
      | (with_reducible refine LeO.ite ?_ ?_)
      | (with_reducible refine LeO.bind ?_ (fun _ => ?_))
      | exact ih0 _ _ _ _
      | exact LeO.none _
      | refine LeO.ite ?_ ?_
      | refine LeO.bind ?_ (fun _ => ?_)
set_option maxHeartbeats 8000000 in
set_option maxRecDepth 100000 in
theorem oned_code93AppendPattern.calls (k : Nat) (P0_ : Nat → Prop) (u9000_ : Value) (l0 : List Bool) (a1 : Int) (a2 : Int) (r1 : Int) (r2 : List Bool) (w0 w : World) (hB : Below w0.heap.size w0 w) (ho0 : Kd.R Kd.bool 4 w w0.heap.size P0_ u9000_ l0) (h : oned_code93AppendPattern.f k l0 a1 a2 = some (r1, r2)) :
    Calls Tryz.prog 150 #[u9000_, .int .i64 a1, .int .i64 a2] w fun e w' => e = .returned (.int .i64 r1) ∧ Kd.R Kd.bool 4 w' w0.heap.size (fun k_ => (P0_ k_ ∨ w.heap.size ≤ k_)) u9000_ r2 ∧ Below w0.heap.size w0 w' ∧ Kept w w' (fun k_ => P0_ k_) := by
  have HO0 := Aside0.mk (show Kd.R Kd.bool 4 w w0.heap.size (fun k_ => (P0_ k_ ∨ w.heap.size ≤ k_)) u9000_ l0 from Kd.R_mono ho0 (fun k_ hk => (.inl hk)))
  have HK := Aside0.mk (Kept.refl w (fun k_ => P0_ k_))
  have HW0 := Aside0.mk hB.size
  have HB := Aside0.mk hB
  clear hB
  have H : (oned_code93AppendPattern.l0 k l0 a1 a2 0) = some (r1, r2) := h
  clear h
  have H' := Aside0.mk H
  clear H
  go_enter Tryz.func150, Tryz.ntmps150
  go_wp2
  go_loopg [7] k (fun kq v7 w' => ∃ (x0_1 : List Bool) (x7_1 : Int), v7 = .int .i64 x7_1 ∧ Aside0 (oned_code93AppendPattern.l0 kq x0_1 a1 a2 x7_1 = some (r1, r2)) ∧ Aside0 (kq ≤ k) ∧ Aside0 (Kd.R Kd.bool 4 w' w0.heap.size (fun k_ => (P0_ k_ ∨ w.heap.size ≤ k_)) u9000_ x0_1) ∧ Aside0 (Kept w w' (fun k_ => P0_ k_)) ∧ Aside0 (Below w0.heap.size w0 w'))
  case atStart => exact ⟨(l0), (0), (by first | rfl | (simp; done) | (simp [*]; done)), H', ⟨Nat.le_refl _⟩, ⟨by (with_reducible repeat (first | apply Kd.R_alloc | apply Kd.R_drewN | apply Kd.R_drew)); exact HO0.out⟩, ⟨by repeat (first | (with_reducible first | exact HK.out | apply Kept.alloc | apply Kept.drewN | apply Kept.drew) | exact HK.out)⟩, ⟨by repeat (first | (with_reducible first | exact HB.out | apply below_alloc | apply pw_below_drewN | apply below_drew1) | exact HB.out)⟩⟩
  case round =>
    clear H'
    try clear c1
    try clear p2
    obtain ⟨x0_1, x7_1, rfl, HA, HK1, HO_0, HK, HB⟩ := hrel
    cases gk with
    | zero => exact absurd HA.out (by simp [oned_code93AppendPattern.l0])
    | succ k1 =>
      have H := HA.out
      clear HA
      simp only [oned_code93AppendPattern.l0] at H
      by_cases c4 : x7_1 < 9
      · rw [if_pos c4] at H
        have c4b0 : decide (x7_1 < 9) = true := decide_eq_true c4
        clear c4
        obtain ⟨ji5, hji5⟩ : ∃ j_ : Int, (IntKind.u64.wrap (wrap64 (8 - x7_1))) = j_ := ⟨_, rfl⟩
        replace H : (if 0 ≤ (ji5) then (if 0 ≤ (wrap64 (a1 + x7_1)) then (if (wrap64 (a1 + x7_1)) < (x0_1.length : Int) then (oned_code93AppendPattern.l0 k1 (x0_1.set ((wrap64 (a1 + x7_1)) : Int).toNat ((Go.bits .and .i64 a2 (shl .i64 1 (ji5))) != 0)) a1 a2 (wrap64 (x7_1 + 1))) else (none)) else (none)) else (none)) = some (r1, r2) := by first | (rw [hji5] at H; exact H) | (simp only [hji5] at H ⊢; exact H)
        by_cases c6 : 0 ≤ (ji5)
        · rw [if_pos c6] at H
          have c6b0 := eq_true c6
          have c6b1 : decide (0 ≤ (ji5)) = true := decide_eq_true c6
          clear c6
          obtain ⟨ji7, hji7⟩ : ∃ j_ : Int, (shl .i64 1 (ji5)) = j_ := ⟨_, rfl⟩
          replace H : (if 0 ≤ (wrap64 (a1 + x7_1)) then (if (wrap64 (a1 + x7_1)) < (x0_1.length : Int) then (oned_code93AppendPattern.l0 k1 (x0_1.set ((wrap64 (a1 + x7_1)) : Int).toNat ((Go.bits .and .i64 a2 (ji7)) != 0)) a1 a2 (wrap64 (x7_1 + 1))) else (none)) else (none)) = some (r1, r2) := by first | (rw [hji7] at H; exact H) | (simp only [hji7] at H ⊢; exact H)
          have hji7_ : (IntKind.i64.wrap (1 * 2 ^ min (ji5).toNat 64)) = ji7 := hji7
          have hji7z : (ji5) ≤ 64 → (IntKind.i64.wrap (1 * 2 ^ (ji5).toNat)) = ji7 := shl_small hji7
          have hji7u : (IntKind.i64.wrap (2 ^ min (ji5).toNat 64)) = ji7 := by have h_ := hji7_; rw [Int.one_mul] at h_; exact h_
          have hji7v : (ji5) ≤ 64 → (IntKind.i64.wrap (2 ^ (ji5).toNat)) = ji7 := fun hle_ => by have h_ := hji7z hle_; rw [Int.one_mul] at h_; exact h_
          have hji7y : (wrap64 (1 * 2 ^ min (ji5).toNat 64)) = ji7 := (i64_w _).symm.trans hji7_
          have hji7x : (ji5) ≤ 64 → (wrap64 (1 * 2 ^ (ji5).toNat)) = ji7 := fun h_ => (i64_w _).symm.trans (hji7z h_)
          obtain ⟨ji8, hji8⟩ : ∃ j_ : Int, (wrap64 (a1 + x7_1)) = j_ := ⟨_, rfl⟩
          replace H : (if 0 ≤ (ji8) then (if (ji8) < (x0_1.length : Int) then (oned_code93AppendPattern.l0 k1 (x0_1.set ((ji8) : Int).toNat ((Go.bits .and .i64 a2 (ji7)) != 0)) a1 a2 (wrap64 (x7_1 + 1))) else (none)) else (none)) = some (r1, r2) := by first | (rw [hji8] at H; exact H) | (simp only [hji8] at H ⊢; exact H)
          have hji8w : (IntKind.i64.wrap (a1 + x7_1)) = ji8 := (i64_w _).trans hji8
          by_cases c9 : 0 ≤ (ji8)
          · rw [if_pos c9] at H
            have c9b0 : decide (0 ≤ (ji8)) = true := decide_eq_true c9
            clear c9
            by_cases c10 : (ji8) < (x0_1.length : Int)
            · rw [if_pos c10] at H
              have c10b0 : decide ((ji8) < (x0_1.length : Int)) = true := decide_eq_true c10
              clear c10
              obtain ⟨y528, hy528⟩ : ∃ y_ : List Bool, y_ = (x0_1.set ((ji8) : Int).toNat ((Go.bits .and .i64 a2 (ji7)) != 0)) := ⟨_, rfl⟩
              replace H : (oned_code93AppendPattern.l0 k1 y528 a1 a2 (wrap64 (x7_1 + 1))) = some (r1, r2) := by first | (rw [hy528]; with_reducible exact H) | (have H2_ := (Option.bind_some _ _).symm.trans H; rw [hy528]; with_reducible exact H2_) | (have H2_ := (Option.bind_some _ _).symm.trans H; with_reducible exact H2_) | with_reducible exact H | (rw [hy528]; exact H) | exact H
              have Ny528 := Aside0.mk hy528
              clear hy528
              have H' := Aside0.mk H
              clear H
              have p11 : 0 ≤ ((ji8) : Int) := of_decide_eq_true (by first | (with_reducible assumption) | assumption)
              have q11 : ((ji8) : Int) < ((x0_1.length : Int) : Int) := of_decide_eq_true (by first | (with_reducible assumption) | assumption)
              obtain ⟨go11, co11, eo11, gb11, gl11, cl11, HG11⟩ := Kd.R_form HO_0.out (by omega)
              (first | cases eo11 | (injection eo11 with ea_ en_ ec_; (first | subst ea_ | (injection ea_ with ea_; subst ea_)); subst ec_; clear en_))
              have GB11 := Aside0.mk gb11
              have GG11 := Aside0.mk HG11
              clear gb11 gl11 HG11
              have HMgo11 := Aside0.mk (show (P0_ go11 ∨ w.heap.size ≤ go11) from (HO_0.out.1 _ rfl))
              obtain ⟨hx11_0, hf11_0⟩ := Kd.R_celln false HO_0.out ((ji8) : Int) p11 q11
              replace p11 := eq_true p11
              replace q11 := eq_true q11
              have HP12 := Kd.R_putg HO_0.out ((ji8) : Int) ((Go.bits .and .i64 a2 (ji7)) != 0)
              go_wp2_with (first | ((with_reducible refine gate_store (t := 4) (p := 25) rfl ?_); refine store_event (t := 4) (p := 25) (v := ?vo_w13) (w1 := (wr.setCell ⟨go11, ((ji8) : Int).toNat, none⟩ (.bool ((Go.bits .and .i64 a2 (ji7)) != 0)))) ?hg ?ho ?hn ?hr ?_; (case ho => rfl); (case hg => rfl); (case hn => rfl); (case hr => first | (go_simp; done) | (go_simp; rfl)); intro w13 hw; have hg : wr.grownBy w13 (some go11) := (by rw [hw]; exact HP12.2); have hp_ : Kd.R Kd.bool 4 w13 w0.heap.size (fun k_ => (P0_ k_ ∨ w.heap.size ≤ k_)) (.slice (some ⟨go11, 0, none⟩) x0_1.length co11) y528 := (by rw [hw, Ny528.out]; exact HP12.1); clear HP12; have n0_ := Aside0.mk (hp_); have n1_ := Aside0.mk ((by rw [hw]; exact below_set (HB.out) GB11.out : Below w0.heap.size w0 w13)); have n2_ := Aside0.mk (Kept.of_grown (S := (fun k_ => P0_ k_)) hg (by repeat (first | (with_reducible first | exact HK.out | apply Kept.alloc | apply Kept.drewN | apply Kept.drew) | exact HK.out)) (fun k_ e_ => (HO_0.out.1 k_ e_))); clear HO_0; clear HB; clear HK; have HO_0 := n0_; have HB := n1_; have HK := n2_; clear n0_ n1_ n2_; clear hg hw hp_))
              go_roundg k1
              case measure => have := HK1.out; omega
              case rel => exact ⟨(y528), (wrap64 (x7_1 + 1)), (by first | rfl | (simp; done) | (simp [*]; done)), H', ⟨by have := HK1.out; omega⟩, ⟨by (with_reducible repeat (first | apply Kd.R_alloc | apply Kd.R_drewN | apply Kd.R_drew)); exact HO_0.out⟩, ⟨by repeat (first | (with_reducible first | exact HK.out | apply Kept.alloc | apply Kept.drewN | apply Kept.drew) | exact HK.out)⟩, ⟨by repeat (first | (with_reducible first | exact HB.out | apply below_alloc | apply pw_below_drewN | apply below_drew1) | exact HB.out)⟩⟩
            · rw [if_neg c10] at H
              exact absurd H (by simp)
          · rw [if_neg c9] at H
            exact absurd H (by simp)
        · rw [if_neg c6] at H
          exact absurd H (by simp)
      · rw [if_neg c4] at H
        have c4b0 : decide (x7_1 < 9) = false := decide_eq_false c4
        clear c4
        simp only [Option.some.injEq, Prod.mk.injEq] at H
        obtain ⟨rfl, rfl⟩ := H
        go_wp2
        go_ret
        exact ⟨by first | rfl | (simp [errW_none, errW_some] <;> rfl) | (simp [*, errW_none, errW_some] <;> rfl), by (with_reducible repeat (first | apply Kd.R_alloc | apply Kd.R_drewN | apply Kd.R_drew)); exact HO_0.out, by repeat (first | (with_reducible first | exact HB.out | apply below_alloc | apply pw_below_drewN | apply below_drew1) | exact HB.out), by repeat (first | (with_reducible first | exact HK.out | apply Kept.alloc | apply Kept.drewN | apply Kept.drew) | exact HK.out)⟩

/-! ### oned_code93CharacterEncodings: function 151 -/
def oned_code93CharacterEncodings.f  : Option (List Int) := some (([276, 328, 324, 322, 296, 292, 290, 336, 274, 266, 424, 420, 418, 404, 402, 394, 360, 356, 354, 308, 282, 344, 332, 326, 300, 278, 436, 434, 428, 422, 406, 410, 364, 358, 310, 314, 302, 468, 466, 458, 366, 374, 430, 294, 474, 470, 306, 350] : List Int))
set_option maxHeartbeats 8000000 in
set_option maxRecDepth 100000 in
theorem oned_code93CharacterEncodings.calls  (r : List Int) (w : World) (h : oned_code93CharacterEncodings.f  = some r) :
    Calls Tryz.prog 151 #[] w fun e w' => ∃ v0_ : Value, e = .returned (v0_) ∧ Kd.R (Kd.int .i64) 3 w' w.heap.size (fun _ => True) v0_ r ∧ Below w.heap.size w w' := by
  have HB := Aside0.mk (Below.refl w.heap.size w)
  have H : (some (([276, 328, 324, 322, 296, 292, 290, 336, 274, 266, 424, 420, 418, 404, 402, 394, 360, 356, 354, 308, 282, 344, 332, 326, 300, 278, 436, 434, 428, 422, 406, 410, 364, 358, 310, 314, 302, 468, 466, 458, 366, 374, 430, 294, 474, 470, 306, 350] : List Int))) = some r := h
  clear h
  obtain ⟨y529, hy529⟩ : ∃ y_ : List Int, y_ = (([276, 328, 324, 322, 296, 292, 290, 336, 274, 266, 424, 420, 418, 404, 402, 394, 360, 356, 354, 308, 282, 344, 332, 326, 300, 278, 436, 434, 428, 422, 406, 410, 364, 358, 310, 314, 302, 468, 466, 458, 366, 374, 430, 294, 474, 470, 306, 350] : List Int)) := ⟨_, rfl⟩
  replace H : (some y529) = some r := by first | (rw [hy529]; with_reducible exact H) | (have H2_ := (Option.bind_some _ _).symm.trans H; rw [hy529]; with_reducible exact H2_) | (have H2_ := (Option.bind_some _ _).symm.trans H; with_reducible exact H2_) | with_reducible exact H | (rw [hy529]; exact H) | exact H
  have Ny529 := Aside0.mk hy529
  clear hy529
  obtain rfl := Option.some.inj H
  go_enter Tryz.func151, Tryz.ntmps151
  go_wp2_with (first | ((with_reducible refine gate_dst (N := 1) rfl ?_); refine Kd.R_lit (Kd.int .i64) _ 3 ?hg (N := 1) ?hd (xs := ([276, 328, 324, 322, 296, 292, 290, 336, 274, 266, 424, 420, 418, 404, 402, 394, 360, 356, 354, 308, 282, 344, 332, 326, 300, 278, 436, 434, 428, 422, 406, 410, 364, 358, 310, 314, 302, 468, 466, 458, 366, 374, 430, 294, 474, 470, 306, 350] : List Int)) (inner := [.int .i64 276, .int .i64 328, .int .i64 324, .int .i64 322, .int .i64 296, .int .i64 292, .int .i64 290, .int .i64 336, .int .i64 274, .int .i64 266, .int .i64 424, .int .i64 420, .int .i64 418, .int .i64 404, .int .i64 402, .int .i64 394, .int .i64 360, .int .i64 356, .int .i64 354, .int .i64 308, .int .i64 282, .int .i64 344, .int .i64 332, .int .i64 326, .int .i64 300, .int .i64 278, .int .i64 436, .int .i64 434, .int .i64 428, .int .i64 422, .int .i64 406, .int .i64 410, .int .i64 364, .int .i64 358, .int .i64 310, .int .i64 314, .int .i64 302, .int .i64 468, .int .i64 466, .int .i64 458, .int .i64 366, .int .i64 374, .int .i64 430, .int .i64 294, .int .i64 474, .int .i64 470, .int .i64 306, .int .i64 350]) (ok := fun _ => True) (okp := fun _ => True) ?hr ?hp (fun _ hk => hk) trivial (Below.refl _ _) (Nat.le_refl _) (by simp) ?_; (case hd => rfl); (case hg => rfl); (case hr => first | (go_simp; done) | (go_simp; rfl)); (case hp => exact (Reps.one (show Kd.M (Kd.int .i64) _ _ _ 276 [.int .i64 276] from rfl) (Reps.one (show Kd.M (Kd.int .i64) _ _ _ 328 [.int .i64 328] from rfl) (Reps.one (show Kd.M (Kd.int .i64) _ _ _ 324 [.int .i64 324] from rfl) (Reps.one (show Kd.M (Kd.int .i64) _ _ _ 322 [.int .i64 322] from rfl) (Reps.one (show Kd.M (Kd.int .i64) _ _ _ 296 [.int .i64 296] from rfl) (Reps.one (show Kd.M (Kd.int .i64) _ _ _ 292 [.int .i64 292] from rfl) (Reps.one (show Kd.M (Kd.int .i64) _ _ _ 290 [.int .i64 290] from rfl) (Reps.one (show Kd.M (Kd.int .i64) _ _ _ 336 [.int .i64 336] from rfl) (Reps.one (show Kd.M (Kd.int .i64) _ _ _ 274 [.int .i64 274] from rfl) (Reps.one (show Kd.M (Kd.int .i64) _ _ _ 266 [.int .i64 266] from rfl) (Reps.one (show Kd.M (Kd.int .i64) _ _ _ 424 [.int .i64 424] from rfl) (Reps.one (show Kd.M (Kd.int .i64) _ _ _ 420 [.int .i64 420] from rfl) (Reps.one (show Kd.M (Kd.int .i64) _ _ _ 418 [.int .i64 418] from rfl) (Reps.one (show Kd.M (Kd.int .i64) _ _ _ 404 [.int .i64 404] from rfl) (Reps.one (show Kd.M (Kd.int .i64) _ _ _ 402 [.int .i64 402] from rfl) (Reps.one (show Kd.M (Kd.int .i64) _ _ _ 394 [.int .i64 394] from rfl) (Reps.one (show Kd.M (Kd.int .i64) _ _ _ 360 [.int .i64 360] from rfl) (Reps.one (show Kd.M (Kd.int .i64) _ _ _ 356 [.int .i64 356] from rfl) (Reps.one (show Kd.M (Kd.int .i64) _ _ _ 354 [.int .i64 354] from rfl) (Reps.one (show Kd.M (Kd.int .i64) _ _ _ 308 [.int .i64 308] from rfl) (Reps.one (show Kd.M (Kd.int .i64) _ _ _ 282 [.int .i64 282] from rfl) (Reps.one (show Kd.M (Kd.int .i64) _ _ _ 344 [.int .i64 344] from rfl) (Reps.one (show Kd.M (Kd.int .i64) _ _ _ 332 [.int .i64 332] from rfl) (Reps.one (show Kd.M (Kd.int .i64) _ _ _ 326 [.int .i64 326] from rfl) (Reps.one (show Kd.M (Kd.int .i64) _ _ _ 300 [.int .i64 300] from rfl) (Reps.one (show Kd.M (Kd.int .i64) _ _ _ 278 [.int .i64 278] from rfl) (Reps.one (show Kd.M (Kd.int .i64) _ _ _ 436 [.int .i64 436] from rfl) (Reps.one (show Kd.M (Kd.int .i64) _ _ _ 434 [.int .i64 434] from rfl) (Reps.one (show Kd.M (Kd.int .i64) _ _ _ 428 [.int .i64 428] from rfl) (Reps.one (show Kd.M (Kd.int .i64) _ _ _ 422 [.int .i64 422] from rfl) (Reps.one (show Kd.M (Kd.int .i64) _ _ _ 406 [.int .i64 406] from rfl) (Reps.one (show Kd.M (Kd.int .i64) _ _ _ 410 [.int .i64 410] from rfl) (Reps.one (show Kd.M (Kd.int .i64) _ _ _ 364 [.int .i64 364] from rfl) (Reps.one (show Kd.M (Kd.int .i64) _ _ _ 358 [.int .i64 358] from rfl) (Reps.one (show Kd.M (Kd.int .i64) _ _ _ 310 [.int .i64 310] from rfl) (Reps.one (show Kd.M (Kd.int .i64) _ _ _ 314 [.int .i64 314] from rfl) (Reps.one (show Kd.M (Kd.int .i64) _ _ _ 302 [.int .i64 302] from rfl) (Reps.one (show Kd.M (Kd.int .i64) _ _ _ 468 [.int .i64 468] from rfl) (Reps.one (show Kd.M (Kd.int .i64) _ _ _ 466 [.int .i64 466] from rfl) (Reps.one (show Kd.M (Kd.int .i64) _ _ _ 458 [.int .i64 458] from rfl) (Reps.one (show Kd.M (Kd.int .i64) _ _ _ 366 [.int .i64 366] from rfl) (Reps.one (show Kd.M (Kd.int .i64) _ _ _ 374 [.int .i64 374] from rfl) (Reps.one (show Kd.M (Kd.int .i64) _ _ _ 430 [.int .i64 430] from rfl) (Reps.one (show Kd.M (Kd.int .i64) _ _ _ 294 [.int .i64 294] from rfl) (Reps.one (show Kd.M (Kd.int .i64) _ _ _ 474 [.int .i64 474] from rfl) (Reps.one (show Kd.M (Kd.int .i64) _ _ _ 470 [.int .i64 470] from rfl) (Reps.one (show Kd.M (Kd.int .i64) _ _ _ 306 [.int .i64 306] from rfl) (Reps.one (show Kd.M (Kd.int .i64) _ _ _ 350 [.int .i64 350] from rfl) (Reps.none _ _)))))))))))))))))))))))))))))))))))))))))))))))))); intro v530 w1 ho2 hb hg_ hnew_; clear hg_ hnew_; (first | rw [← Ny529.out] at ho2 | (simp only [Int.reduceToNat] at ho2; rw [← Ny529.out] at ho2)); have n0_ := Aside0.mk (Kd.R_lower ho2 (below_size (by repeat (first | (with_reducible first | exact HB.out | apply below_alloc | apply pw_below_drewN | apply below_drew1) | exact HB.out)))); have n1_ := Aside0.mk (below_step (by repeat (first | (with_reducible first | exact HB.out | apply below_alloc | apply pw_below_drewN | apply below_drew1) | exact HB.out)) hb); clear HB; have HO531 := n0_; have HB := n1_; clear n0_ n1_; clear hb ho2))
  go_ret
  exact ⟨_, by first | rfl | (simp [errW_none, errW_some] <;> rfl) | (simp [*, errW_none, errW_some] <;> rfl), by (with_reducible repeat (first | apply Kd.R_alloc | apply Kd.R_drewN | apply Kd.R_drew)); exact HO531.out, by repeat (first | (with_reducible first | exact HB.out | apply below_alloc | apply pw_below_drewN | apply below_drew1) | exact HB.out)⟩

-- NOT PRINTED: function 152 (oned_code93ComputeChecksumIndex)

-- NOT PRINTED: function 147 (oned_code93Encoder_encodeWithHints)

/-! ### oned_itfWriter_START_PATTERN: function 173 -/
def oned_itfWriter_START_PATTERN.f  : Option (List Int) := some (([1, 1, 1, 1] : List Int))
set_option maxHeartbeats 8000000 in
set_option maxRecDepth 100000 in
theorem oned_itfWriter_START_PATTERN.calls  (r : List Int) (w : World) (h : oned_itfWriter_START_PATTERN.f  = some r) :
    Calls Tryz.prog 173 #[] w fun e w' => ∃ v0_ : Value, e = .returned (v0_) ∧ Kd.R (Kd.int .i64) 3 w' w.heap.size (fun _ => True) v0_ r ∧ Below w.heap.size w w' := by
  have HB := Aside0.mk (Below.refl w.heap.size w)
  have H : (some (([1, 1, 1, 1] : List Int))) = some r := h
  clear h
  obtain ⟨y399, hy399⟩ : ∃ y_ : List Int, y_ = (([1, 1, 1, 1] : List Int)) := ⟨_, rfl⟩
  replace H : (some y399) = some r := by first | (rw [hy399]; with_reducible exact H) | (have H2_ := (Option.bind_some _ _).symm.trans H; rw [hy399]; with_reducible exact H2_) | (have H2_ := (Option.bind_some _ _).symm.trans H; with_reducible exact H2_) | with_reducible exact H | (rw [hy399]; exact H) | exact H
  have Ny399 := Aside0.mk hy399
  clear hy399
  obtain rfl := Option.some.inj H
  go_enter Tryz.func173, Tryz.ntmps173
  go_wp2_with (first | ((with_reducible refine gate_dst (N := 1) rfl ?_); refine Kd.R_lit (Kd.int .i64) _ 3 ?hg (N := 1) ?hd (xs := ([1, 1, 1, 1] : List Int)) (inner := [.int .i64 1, .int .i64 1, .int .i64 1, .int .i64 1]) (ok := fun _ => True) (okp := fun _ => True) ?hr ?hp (fun _ hk => hk) trivial (Below.refl _ _) (Nat.le_refl _) (by simp) ?_; (case hd => rfl); (case hg => rfl); (case hr => first | (go_simp; done) | (go_simp; rfl)); (case hp => exact (Reps.one (show Kd.M (Kd.int .i64) _ _ _ 1 [.int .i64 1] from rfl) (Reps.one (show Kd.M (Kd.int .i64) _ _ _ 1 [.int .i64 1] from rfl) (Reps.one (show Kd.M (Kd.int .i64) _ _ _ 1 [.int .i64 1] from rfl) (Reps.one (show Kd.M (Kd.int .i64) _ _ _ 1 [.int .i64 1] from rfl) (Reps.none _ _)))))); intro v400 w1 ho2 hb hg_ hnew_; clear hg_ hnew_; (first | rw [← Ny399.out] at ho2 | (simp only [Int.reduceToNat] at ho2; rw [← Ny399.out] at ho2)); have n0_ := Aside0.mk (Kd.R_lower ho2 (below_size (by repeat (first | (with_reducible first | exact HB.out | apply below_alloc | apply pw_below_drewN | apply below_drew1) | exact HB.out)))); have n1_ := Aside0.mk (below_step (by repeat (first | (with_reducible first | exact HB.out | apply below_alloc | apply pw_below_drewN | apply below_drew1) | exact HB.out)) hb); clear HB; have HO401 := n0_; have HB := n1_; clear n0_ n1_; clear hb ho2))
  go_ret
  exact ⟨_, by first | rfl | (simp [errW_none, errW_some] <;> rfl) | (simp [*, errW_none, errW_some] <;> rfl), by (with_reducible repeat (first | apply Kd.R_alloc | apply Kd.R_drewN | apply Kd.R_drew)); exact HO401.out, by repeat (first | (with_reducible first | exact HB.out | apply below_alloc | apply pw_below_drewN | apply below_drew1) | exact HB.out)⟩

/-! ### oned_itfWriter_PATTERNS: function 174 -/
def oned_itfWriter_PATTERNS.f  : Option ((List (List Int))) := some (([(([1, 1, 3, 3, 1] : List Int)), (([3, 1, 1, 1, 3] : List Int)), (([1, 3, 1, 1, 3] : List Int)), (([3, 3, 1, 1, 1] : List Int)), (([1, 1, 3, 1, 3] : List Int)), (([3, 1, 3, 1, 1] : List Int)), (([1, 3, 3, 1, 1] : List Int)), (([1, 1, 1, 3, 3] : List Int)), (([3, 1, 1, 3, 1] : List Int)), (([1, 3, 1, 3, 1] : List Int))] : List (List Int)))
set_option maxHeartbeats 8000000 in
set_option maxRecDepth 100000 in
theorem oned_itfWriter_PATTERNS.calls  (r : List (List Int)) (w : World) (h : oned_itfWriter_PATTERNS.f  = some r) :
    Calls Tryz.prog 174 #[] w fun e w' => ∃ v0_ : Value, e = .returned (v0_) ∧ Kd.N (Kd.slice 3 (Kd.int .i64)) 40 w' w.heap.size (fun k_ => (w.heap.size ≤ k_)) v0_ r ∧ Below w.heap.size w w' := by
  have HB := Aside0.mk (Below.refl w.heap.size w)
  have H : (some (([(([1, 1, 3, 3, 1] : List Int)), (([3, 1, 1, 1, 3] : List Int)), (([1, 3, 1, 1, 3] : List Int)), (([3, 3, 1, 1, 1] : List Int)), (([1, 1, 3, 1, 3] : List Int)), (([3, 1, 3, 1, 1] : List Int)), (([1, 3, 3, 1, 1] : List Int)), (([1, 1, 1, 3, 3] : List Int)), (([3, 1, 1, 3, 1] : List Int)), (([1, 3, 1, 3, 1] : List Int))] : List (List Int)))) = some r := h
  clear h
  obtain ⟨y402, hy402⟩ : ∃ y_ : List Int, y_ = (([1, 1, 3, 3, 1] : List Int)) := ⟨_, rfl⟩
  replace H : (some (([y402, (([3, 1, 1, 1, 3] : List Int)), (([1, 3, 1, 1, 3] : List Int)), (([3, 3, 1, 1, 1] : List Int)), (([1, 1, 3, 1, 3] : List Int)), (([3, 1, 3, 1, 1] : List Int)), (([1, 3, 3, 1, 1] : List Int)), (([1, 1, 1, 3, 3] : List Int)), (([3, 1, 1, 3, 1] : List Int)), (([1, 3, 1, 3, 1] : List Int))] : List (List Int)))) = some r := by first | (rw [hy402]; with_reducible exact H) | (have H2_ := (Option.bind_some _ _).symm.trans H; rw [hy402]; with_reducible exact H2_) | (have H2_ := (Option.bind_some _ _).symm.trans H; with_reducible exact H2_) | with_reducible exact H | (rw [hy402]; exact H) | exact H
  have Ny402 := Aside0.mk hy402
  clear hy402
  obtain ⟨y405, hy405⟩ : ∃ y_ : List Int, y_ = (([3, 1, 1, 1, 3] : List Int)) := ⟨_, rfl⟩
  replace H : (some (([y402, y405, (([1, 3, 1, 1, 3] : List Int)), (([3, 3, 1, 1, 1] : List Int)), (([1, 1, 3, 1, 3] : List Int)), (([3, 1, 3, 1, 1] : List Int)), (([1, 3, 3, 1, 1] : List Int)), (([1, 1, 1, 3, 3] : List Int)), (([3, 1, 1, 3, 1] : List Int)), (([1, 3, 1, 3, 1] : List Int))] : List (List Int)))) = some r := by first | (rw [hy405]; with_reducible exact H) | (have H2_ := (Option.bind_some _ _).symm.trans H; rw [hy405]; with_reducible exact H2_) | (have H2_ := (Option.bind_some _ _).symm.trans H; with_reducible exact H2_) | with_reducible exact H | (rw [hy405]; exact H) | exact H
  have Ny405 := Aside0.mk hy405
  clear hy405
  obtain ⟨y408, hy408⟩ : ∃ y_ : List Int, y_ = (([1, 3, 1, 1, 3] : List Int)) := ⟨_, rfl⟩
  replace H : (some (([y402, y405, y408, (([3, 3, 1, 1, 1] : List Int)), (([1, 1, 3, 1, 3] : List Int)), (([3, 1, 3, 1, 1] : List Int)), (([1, 3, 3, 1, 1] : List Int)), (([1, 1, 1, 3, 3] : List Int)), (([3, 1, 1, 3, 1] : List Int)), (([1, 3, 1, 3, 1] : List Int))] : List (List Int)))) = some r := by first | (rw [hy408]; with_reducible exact H) | (have H2_ := (Option.bind_some _ _).symm.trans H; rw [hy408]; with_reducible exact H2_) | (have H2_ := (Option.bind_some _ _).symm.trans H; with_reducible exact H2_) | with_reducible exact H | (rw [hy408]; exact H) | exact H
  have Ny408 := Aside0.mk hy408
  clear hy408
  obtain ⟨y411, hy411⟩ : ∃ y_ : List Int, y_ = (([3, 3, 1, 1, 1] : List Int)) := ⟨_, rfl⟩
  replace H : (some (([y402, y405, y408, y411, (([1, 1, 3, 1, 3] : List Int)), (([3, 1, 3, 1, 1] : List Int)), (([1, 3, 3, 1, 1] : List Int)), (([1, 1, 1, 3, 3] : List Int)), (([3, 1, 1, 3, 1] : List Int)), (([1, 3, 1, 3, 1] : List Int))] : List (List Int)))) = some r := by first | (rw [hy411]; with_reducible exact H) | (have H2_ := (Option.bind_some _ _).symm.trans H; rw [hy411]; with_reducible exact H2_) | (have H2_ := (Option.bind_some _ _).symm.trans H; with_reducible exact H2_) | with_reducible exact H | (rw [hy411]; exact H) | exact H
  have Ny411 := Aside0.mk hy411
  clear hy411
  obtain ⟨y414, hy414⟩ : ∃ y_ : List Int, y_ = (([1, 1, 3, 1, 3] : List Int)) := ⟨_, rfl⟩
  replace H : (some (([y402, y405, y408, y411, y414, (([3, 1, 3, 1, 1] : List Int)), (([1, 3, 3, 1, 1] : List Int)), (([1, 1, 1, 3, 3] : List Int)), (([3, 1, 1, 3, 1] : List Int)), (([1, 3, 1, 3, 1] : List Int))] : List (List Int)))) = some r := by first | (rw [hy414]; with_reducible exact H) | (have H2_ := (Option.bind_some _ _).symm.trans H; rw [hy414]; with_reducible exact H2_) | (have H2_ := (Option.bind_some _ _).symm.trans H; with_reducible exact H2_) | with_reducible exact H | (rw [hy414]; exact H) | exact H
  have Ny414 := Aside0.mk hy414
  clear hy414
  obtain ⟨y417, hy417⟩ : ∃ y_ : List Int, y_ = (([3, 1, 3, 1, 1] : List Int)) := ⟨_, rfl⟩
  replace H : (some (([y402, y405, y408, y411, y414, y417, (([1, 3, 3, 1, 1] : List Int)), (([1, 1, 1, 3, 3] : List Int)), (([3, 1, 1, 3, 1] : List Int)), (([1, 3, 1, 3, 1] : List Int))] : List (List Int)))) = some r := by first | (rw [hy417]; with_reducible exact H) | (have H2_ := (Option.bind_some _ _).symm.trans H; rw [hy417]; with_reducible exact H2_) | (have H2_ := (Option.bind_some _ _).symm.trans H; with_reducible exact H2_) | with_reducible exact H | (rw [hy417]; exact H) | exact H
  have Ny417 := Aside0.mk hy417
  clear hy417
  obtain ⟨y420, hy420⟩ : ∃ y_ : List Int, y_ = (([1, 3, 3, 1, 1] : List Int)) := ⟨_, rfl⟩
  replace H : (some (([y402, y405, y408, y411, y414, y417, y420, (([1, 1, 1, 3, 3] : List Int)), (([3, 1, 1, 3, 1] : List Int)), (([1, 3, 1, 3, 1] : List Int))] : List (List Int)))) = some r := by first | (rw [hy420]; with_reducible exact H) | (have H2_ := (Option.bind_some _ _).symm.trans H; rw [hy420]; with_reducible exact H2_) | (have H2_ := (Option.bind_some _ _).symm.trans H; with_reducible exact H2_) | with_reducible exact H | (rw [hy420]; exact H) | exact H
  have Ny420 := Aside0.mk hy420
  clear hy420
  obtain ⟨y423, hy423⟩ : ∃ y_ : List Int, y_ = (([1, 1, 1, 3, 3] : List Int)) := ⟨_, rfl⟩
  replace H : (some (([y402, y405, y408, y411, y414, y417, y420, y423, (([3, 1, 1, 3, 1] : List Int)), (([1, 3, 1, 3, 1] : List Int))] : List (List Int)))) = some r := by first | (rw [hy423]; with_reducible exact H) | (have H2_ := (Option.bind_some _ _).symm.trans H; rw [hy423]; with_reducible exact H2_) | (have H2_ := (Option.bind_some _ _).symm.trans H; with_reducible exact H2_) | with_reducible exact H | (rw [hy423]; exact H) | exact H
  have Ny423 := Aside0.mk hy423
  clear hy423
  obtain ⟨y426, hy426⟩ : ∃ y_ : List Int, y_ = (([3, 1, 1, 3, 1] : List Int)) := ⟨_, rfl⟩
  replace H : (some (([y402, y405, y408, y411, y414, y417, y420, y423, y426, (([1, 3, 1, 3, 1] : List Int))] : List (List Int)))) = some r := by first | (rw [hy426]; with_reducible exact H) | (have H2_ := (Option.bind_some _ _).symm.trans H; rw [hy426]; with_reducible exact H2_) | (have H2_ := (Option.bind_some _ _).symm.trans H; with_reducible exact H2_) | with_reducible exact H | (rw [hy426]; exact H) | exact H
  have Ny426 := Aside0.mk hy426
  clear hy426
  obtain ⟨y429, hy429⟩ : ∃ y_ : List Int, y_ = (([1, 3, 1, 3, 1] : List Int)) := ⟨_, rfl⟩
  replace H : (some (([y402, y405, y408, y411, y414, y417, y420, y423, y426, y429] : List (List Int)))) = some r := by first | (rw [hy429]; with_reducible exact H) | (have H2_ := (Option.bind_some _ _).symm.trans H; rw [hy429]; with_reducible exact H2_) | (have H2_ := (Option.bind_some _ _).symm.trans H; with_reducible exact H2_) | with_reducible exact H | (rw [hy429]; exact H) | exact H
  have Ny429 := Aside0.mk hy429
  clear hy429
  obtain ⟨y432, hy432⟩ : ∃ y_ : List (List Int), y_ = (([y402, y405, y408, y411, y414, y417, y420, y423, y426, y429] : List (List Int))) := ⟨_, rfl⟩
  replace H : (some y432) = some r := by first | (rw [hy432]; with_reducible exact H) | (have H2_ := (Option.bind_some _ _).symm.trans H; rw [hy432]; with_reducible exact H2_) | (have H2_ := (Option.bind_some _ _).symm.trans H; with_reducible exact H2_) | with_reducible exact H | (rw [hy432]; exact H) | exact H
  have Ny432 := Aside0.mk hy432
  clear hy432
  obtain rfl := Option.some.inj H
  go_enter Tryz.func174, Tryz.ntmps174
  go_wp2_with (first | ((with_reducible refine gate_dst (N := 1) rfl ?_); refine Kd.R_lit (Kd.int .i64) _ 3 ?hg (N := 1) ?hd (xs := ([1, 1, 3, 3, 1] : List Int)) (inner := [.int .i64 1, .int .i64 1, .int .i64 3, .int .i64 3, .int .i64 1]) (ok := fun _ => True) (okp := fun _ => True) ?hr ?hp (fun _ hk => hk) trivial (Below.refl _ _) (Nat.le_refl _) (by simp) ?_; (case hd => rfl); (case hg => rfl); (case hr => first | (go_simp; done) | (go_simp; rfl)); (case hp => exact (Reps.one (show Kd.M (Kd.int .i64) _ _ _ 1 [.int .i64 1] from rfl) (Reps.one (show Kd.M (Kd.int .i64) _ _ _ 1 [.int .i64 1] from rfl) (Reps.one (show Kd.M (Kd.int .i64) _ _ _ 3 [.int .i64 3] from rfl) (Reps.one (show Kd.M (Kd.int .i64) _ _ _ 3 [.int .i64 3] from rfl) (Reps.one (show Kd.M (Kd.int .i64) _ _ _ 1 [.int .i64 1] from rfl) (Reps.none _ _))))))); intro v403 w1 ho2 hb hg_ hnew_; clear hg_ hnew_; (first | rw [← Ny402.out] at ho2 | (simp only [Int.reduceToNat] at ho2; rw [← Ny402.out] at ho2)); have n0_ := Aside0.mk (Kd.R_lower (Kd.R_newM (M := fun k_ => (w.heap.size ≤ k_)) ho2 (below_size (by repeat (first | (with_reducible first | exact HB.out | apply below_alloc | apply pw_below_drewN | apply below_drew1) | exact HB.out))) (fun k_ h_ => h_)) (below_size (by repeat (first | (with_reducible first | exact HB.out | apply below_alloc | apply pw_below_drewN | apply below_drew1) | exact HB.out)))); have n1_ := Aside0.mk (below_step (by repeat (first | (with_reducible first | exact HB.out | apply below_alloc | apply pw_below_drewN | apply below_drew1) | exact HB.out)) hb); clear HB; have HO404 := n0_; have HB := n1_; clear n0_ n1_; clear hb ho2) | ((with_reducible refine gate_dst (N := 2) rfl ?_); refine Kd.R_lit (Kd.int .i64) _ 3 ?hg (N := 2) ?hd (xs := ([3, 1, 1, 1, 3] : List Int)) (inner := [.int .i64 3, .int .i64 1, .int .i64 1, .int .i64 1, .int .i64 3]) (ok := fun _ => True) (okp := fun _ => True) ?hr ?hp (fun _ hk => hk) trivial (Below.refl _ _) (Nat.le_refl _) (by simp) ?_; (case hd => rfl); (case hg => rfl); (case hr => first | (go_simp; done) | (go_simp; rfl)); (case hp => exact (Reps.one (show Kd.M (Kd.int .i64) _ _ _ 3 [.int .i64 3] from rfl) (Reps.one (show Kd.M (Kd.int .i64) _ _ _ 1 [.int .i64 1] from rfl) (Reps.one (show Kd.M (Kd.int .i64) _ _ _ 1 [.int .i64 1] from rfl) (Reps.one (show Kd.M (Kd.int .i64) _ _ _ 1 [.int .i64 1] from rfl) (Reps.one (show Kd.M (Kd.int .i64) _ _ _ 3 [.int .i64 3] from rfl) (Reps.none _ _))))))); intro v406 w3 ho4 hb hg_ hnew_; clear hg_ hnew_; (first | rw [← Ny405.out] at ho4 | (simp only [Int.reduceToNat] at ho4; rw [← Ny405.out] at ho4)); have n0_ := Aside0.mk (Kd.R_elder' (by (with_reducible repeat (first | apply Kd.R_alloc | apply Kd.R_drewN | apply Kd.R_drew)); exact HO404.out) (Kd.R_base ho4) hb); have n1_ := Aside0.mk (Kd.R_lower (Kd.R_new' (Kd.R_newM (M := fun k_ => (w.heap.size ≤ k_)) ho4 (below_size (by repeat (first | (with_reducible first | exact HB.out | apply below_alloc | apply pw_below_drewN | apply below_drew1) | exact HB.out))) (fun k_ h_ => h_)) (Kd.R_lt (by (with_reducible repeat (first | apply Kd.R_alloc | apply Kd.R_drewN | apply Kd.R_drew)); exact HO404.out))) (below_size (by repeat (first | (with_reducible first | exact HB.out | apply below_alloc | apply pw_below_drewN | apply below_drew1) | exact HB.out)))); have n2_ := Aside0.mk (below_step (by repeat (first | (with_reducible first | exact HB.out | apply below_alloc | apply pw_below_drewN | apply below_drew1) | exact HB.out)) hb); clear HO404; clear HB; have HO404 := n0_; have HO407 := n1_; have HB := n2_; clear n0_ n1_ n2_; clear hb ho4) | ((with_reducible refine gate_dst (N := 3) rfl ?_); refine Kd.R_lit (Kd.int .i64) _ 3 ?hg (N := 3) ?hd (xs := ([1, 3, 1, 1, 3] : List Int)) (inner := [.int .i64 1, .int .i64 3, .int .i64 1, .int .i64 1, .int .i64 3]) (ok := fun _ => True) (okp := fun _ => True) ?hr ?hp (fun _ hk => hk) trivial (Below.refl _ _) (Nat.le_refl _) (by simp) ?_; (case hd => rfl); (case hg => rfl); (case hr => first | (go_simp; done) | (go_simp; rfl)); (case hp => exact (Reps.one (show Kd.M (Kd.int .i64) _ _ _ 1 [.int .i64 1] from rfl) (Reps.one (show Kd.M (Kd.int .i64) _ _ _ 3 [.int .i64 3] from rfl) (Reps.one (show Kd.M (Kd.int .i64) _ _ _ 1 [.int .i64 1] from rfl) (Reps.one (show Kd.M (Kd.int .i64) _ _ _ 1 [.int .i64 1] from rfl) (Reps.one (show Kd.M (Kd.int .i64) _ _ _ 3 [.int .i64 3] from rfl) (Reps.none _ _))))))); intro v409 w5 ho6 hb hg_ hnew_; clear hg_ hnew_; (first | rw [← Ny408.out] at ho6 | (simp only [Int.reduceToNat] at ho6; rw [← Ny408.out] at ho6)); have n0_ := Aside0.mk (Kd.R_elder' (by (with_reducible repeat (first | apply Kd.R_alloc | apply Kd.R_drewN | apply Kd.R_drew)); exact HO404.out) (Kd.R_base ho6) hb); have n1_ := Aside0.mk (Kd.R_elder' (by (with_reducible repeat (first | apply Kd.R_alloc | apply Kd.R_drewN | apply Kd.R_drew)); exact HO407.out) (Kd.R_base ho6) hb); have n2_ := Aside0.mk (Kd.R_lower (Kd.R_new' (Kd.R_new' (Kd.R_newM (M := fun k_ => (w.heap.size ≤ k_)) ho6 (below_size (by repeat (first | (with_reducible first | exact HB.out | apply below_alloc | apply pw_below_drewN | apply below_drew1) | exact HB.out))) (fun k_ h_ => h_)) (Kd.R_lt (by (with_reducible repeat (first | apply Kd.R_alloc | apply Kd.R_drewN | apply Kd.R_drew)); exact HO404.out))) (Kd.R_lt (by (with_reducible repeat (first | apply Kd.R_alloc | apply Kd.R_drewN | apply Kd.R_drew)); exact HO407.out))) (below_size (by repeat (first | (with_reducible first | exact HB.out | apply below_alloc | apply pw_below_drewN | apply below_drew1) | exact HB.out)))); have n3_ := Aside0.mk (below_step (by repeat (first | (with_reducible first | exact HB.out | apply below_alloc | apply pw_below_drewN | apply below_drew1) | exact HB.out)) hb); clear HO404; clear HO407; clear HB; have HO404 := n0_; have HO407 := n1_; have HO410 := n2_; have HB := n3_; clear n0_ n1_ n2_ n3_; clear hb ho6) | ((with_reducible refine gate_dst (N := 4) rfl ?_); refine Kd.R_lit (Kd.int .i64) _ 3 ?hg (N := 4) ?hd (xs := ([3, 3, 1, 1, 1] : List Int)) (inner := [.int .i64 3, .int .i64 3, .int .i64 1, .int .i64 1, .int .i64 1]) (ok := fun _ => True) (okp := fun _ => True) ?hr ?hp (fun _ hk => hk) trivial (Below.refl _ _) (Nat.le_refl _) (by simp) ?_; (case hd => rfl); (case hg => rfl); (case hr => first | (go_simp; done) | (go_simp; rfl)); (case hp => exact (Reps.one (show Kd.M (Kd.int .i64) _ _ _ 3 [.int .i64 3] from rfl) (Reps.one (show Kd.M (Kd.int .i64) _ _ _ 3 [.int .i64 3] from rfl) (Reps.one (show Kd.M (Kd.int .i64) _ _ _ 1 [.int .i64 1] from rfl) (Reps.one (show Kd.M (Kd.int .i64) _ _ _ 1 [.int .i64 1] from rfl) (Reps.one (show Kd.M (Kd.int .i64) _ _ _ 1 [.int .i64 1] from rfl) (Reps.none _ _))))))); intro v412 w7 ho8 hb hg_ hnew_; clear hg_ hnew_; (first | rw [← Ny411.out] at ho8 | (simp only [Int.reduceToNat] at ho8; rw [← Ny411.out] at ho8)); have n0_ := Aside0.mk (Kd.R_elder' (by (with_reducible repeat (first | apply Kd.R_alloc | apply Kd.R_drewN | apply Kd.R_drew)); exact HO404.out) (Kd.R_base ho8) hb); have n1_ := Aside0.mk (Kd.R_elder' (by (with_reducible repeat (first | apply Kd.R_alloc | apply Kd.R_drewN | apply Kd.R_drew)); exact HO407.out) (Kd.R_base ho8) hb); have n2_ := Aside0.mk (Kd.R_elder' (by (with_reducible repeat (first | apply Kd.R_alloc | apply Kd.R_drewN | apply Kd.R_drew)); exact HO410.out) (Kd.R_base ho8) hb); have n3_ := Aside0.mk (Kd.R_lower (Kd.R_new' (Kd.R_new' (Kd.R_new' (Kd.R_newM (M := fun k_ => (w.heap.size ≤ k_)) ho8 (below_size (by repeat (first | (with_reducible first | exact HB.out | apply below_alloc | apply pw_below_drewN | apply below_drew1) | exact HB.out))) (fun k_ h_ => h_)) (Kd.R_lt (by (with_reducible repeat (first | apply Kd.R_alloc | apply Kd.R_drewN | apply Kd.R_drew)); exact HO404.out))) (Kd.R_lt (by (with_reducible repeat (first | apply Kd.R_alloc | apply Kd.R_drewN | apply Kd.R_drew)); exact HO407.out))) (Kd.R_lt (by (with_reducible repeat (first | apply Kd.R_alloc | apply Kd.R_drewN | apply Kd.R_drew)); exact HO410.out))) (below_size (by repeat (first | (with_reducible first | exact HB.out | apply below_alloc | apply pw_below_drewN | apply below_drew1) | exact HB.out)))); have n4_ := Aside0.mk (below_step (by repeat (first | (with_reducible first | exact HB.out | apply below_alloc | apply pw_below_drewN | apply below_drew1) | exact HB.out)) hb); clear HO404; clear HO407; clear HO410; clear HB; have HO404 := n0_; have HO407 := n1_; have HO410 := n2_; have HO413 := n3_; have HB := n4_; clear n0_ n1_ n2_ n3_ n4_; clear hb ho8) | ((with_reducible refine gate_dst (N := 5) rfl ?_); refine Kd.R_lit (Kd.int .i64) _ 3 ?hg (N := 5) ?hd (xs := ([1, 1, 3, 1, 3] : List Int)) (inner := [.int .i64 1, .int .i64 1, .int .i64 3, .int .i64 1, .int .i64 3]) (ok := fun _ => True) (okp := fun _ => True) ?hr ?hp (fun _ hk => hk) trivial (Below.refl _ _) (Nat.le_refl _) (by simp) ?_; (case hd => rfl); (case hg => rfl); (case hr => first | (go_simp; done) | (go_simp; rfl)); (case hp => exact (Reps.one (show Kd.M (Kd.int .i64) _ _ _ 1 [.int .i64 1] from rfl) (Reps.one (show Kd.M (Kd.int .i64) _ _ _ 1 [.int .i64 1] from rfl) (Reps.one (show Kd.M (Kd.int .i64) _ _ _ 3 [.int .i64 3] from rfl) (Reps.one (show Kd.M (Kd.int .i64) _ _ _ 1 [.int .i64 1] from rfl) (Reps.one (show Kd.M (Kd.int .i64) _ _ _ 3 [.int .i64 3] from rfl) (Reps.none _ _))))))); intro v415 w9 ho10 hb hg_ hnew_; clear hg_ hnew_; (first | rw [← Ny414.out] at ho10 | (simp only [Int.reduceToNat] at ho10; rw [← Ny414.out] at ho10)); have n0_ := Aside0.mk (Kd.R_elder' (by (with_reducible repeat (first | apply Kd.R_alloc | apply Kd.R_drewN | apply Kd.R_drew)); exact HO404.out) (Kd.R_base ho10) hb); have n1_ := Aside0.mk (Kd.R_elder' (by (with_reducible repeat (first | apply Kd.R_alloc | apply Kd.R_drewN | apply Kd.R_drew)); exact HO407.out) (Kd.R_base ho10) hb); have n2_ := Aside0.mk (Kd.R_elder' (by (with_reducible repeat (first | apply Kd.R_alloc | apply Kd.R_drewN | apply Kd.R_drew)); exact HO410.out) (Kd.R_base ho10) hb); have n3_ := Aside0.mk (Kd.R_elder' (by (with_reducible repeat (first | apply Kd.R_alloc | apply Kd.R_drewN | apply Kd.R_drew)); exact HO413.out) (Kd.R_base ho10) hb); have n4_ := Aside0.mk (Kd.R_lower (Kd.R_new' (Kd.R_new' (Kd.R_new' (Kd.R_new' (Kd.R_newM (M := fun k_ => (w.heap.size ≤ k_)) ho10 (below_size (by repeat (first | (with_reducible first | exact HB.out | apply below_alloc | apply pw_below_drewN | apply below_drew1) | exact HB.out))) (fun k_ h_ => h_)) (Kd.R_lt (by (with_reducible repeat (first | apply Kd.R_alloc | apply Kd.R_drewN | apply Kd.R_drew)); exact HO404.out))) (Kd.R_lt (by (with_reducible repeat (first | apply Kd.R_alloc | apply Kd.R_drewN | apply Kd.R_drew)); exact HO407.out))) (Kd.R_lt (by (with_reducible repeat (first | apply Kd.R_alloc | apply Kd.R_drewN | apply Kd.R_drew)); exact HO410.out))) (Kd.R_lt (by (with_reducible repeat (first | apply Kd.R_alloc | apply Kd.R_drewN | apply Kd.R_drew)); exact HO413.out))) (below_size (by repeat (first | (with_reducible first | exact HB.out | apply below_alloc | apply pw_below_drewN | apply below_drew1) | exact HB.out)))); have n5_ := Aside0.mk (below_step (by repeat (first | (with_reducible first | exact HB.out | apply below_alloc | apply pw_below_drewN | apply below_drew1) | exact HB.out)) hb); clear HO404; clear HO407; clear HO410; clear HO413; clear HB; have HO404 := n0_; have HO407 := n1_; have HO410 := n2_; have HO413 := n3_; have HO416 := n4_; have HB := n5_; clear n0_ n1_ n2_ n3_ n4_ n5_; clear hb ho10) | ((with_reducible refine gate_dst (N := 6) rfl ?_); refine Kd.R_lit (Kd.int .i64) _ 3 ?hg (N := 6) ?hd (xs := ([3, 1, 3, 1, 1] : List Int)) (inner := [.int .i64 3, .int .i64 1, .int .i64 3, .int .i64 1, .int .i64 1]) (ok := fun _ => True) (okp := fun _ => True) ?hr ?hp (fun _ hk => hk) trivial (Below.refl _ _) (Nat.le_refl _) (by simp) ?_; (case hd => rfl); (case hg => rfl); (case hr => first | (go_simp; done) | (go_simp; rfl)); (case hp => exact (Reps.one (show Kd.M (Kd.int .i64) _ _ _ 3 [.int .i64 3] from rfl) (Reps.one (show Kd.M (Kd.int .i64) _ _ _ 1 [.int .i64 1] from rfl) (Reps.one (show Kd.M (Kd.int .i64) _ _ _ 3 [.int .i64 3] from rfl) (Reps.one (show Kd.M (Kd.int .i64) _ _ _ 1 [.int .i64 1] from rfl) (Reps.one (show Kd.M (Kd.int .i64) _ _ _ 1 [.int .i64 1] from rfl) (Reps.none _ _))))))); intro v418 w11 ho12 hb hg_ hnew_; clear hg_ hnew_; (first | rw [← Ny417.out] at ho12 | (simp only [Int.reduceToNat] at ho12; rw [← Ny417.out] at ho12)); have n0_ := Aside0.mk (Kd.R_elder' (by (with_reducible repeat (first | apply Kd.R_alloc | apply Kd.R_drewN | apply Kd.R_drew)); exact HO404.out) (Kd.R_base ho12) hb); have n1_ := Aside0.mk (Kd.R_elder' (by (with_reducible repeat (first | apply Kd.R_alloc | apply Kd.R_drewN | apply Kd.R_drew)); exact HO407.out) (Kd.R_base ho12) hb); have n2_ := Aside0.mk (Kd.R_elder' (by (with_reducible repeat (first | apply Kd.R_alloc | apply Kd.R_drewN | apply Kd.R_drew)); exact HO410.out) (Kd.R_base ho12) hb); have n3_ := Aside0.mk (Kd.R_elder' (by (with_reducible repeat (first | apply Kd.R_alloc | apply Kd.R_drewN | apply Kd.R_drew)); exact HO413.out) (Kd.R_base ho12) hb); have n4_ := Aside0.mk (Kd.R_elder' (by (with_reducible repeat (first | apply Kd.R_alloc | apply Kd.R_drewN | apply Kd.R_drew)); exact HO416.out) (Kd.R_base ho12) hb); have n5_ := Aside0.mk (Kd.R_lower (Kd.R_new' (Kd.R_new' (Kd.R_new' (Kd.R_new' (Kd.R_new' (Kd.R_newM (M := fun k_ => (w.heap.size ≤ k_)) ho12 (below_size (by repeat (first | (with_reducible first | exact HB.out | apply below_alloc | apply pw_below_drewN | apply below_drew1) | exact HB.out))) (fun k_ h_ => h_)) (Kd.R_lt (by (with_reducible repeat (first | apply Kd.R_alloc | apply Kd.R_drewN | apply Kd.R_drew)); exact HO404.out))) (Kd.R_lt (by (with_reducible repeat (first | apply Kd.R_alloc | apply Kd.R_drewN | apply Kd.R_drew)); exact HO407.out))) (Kd.R_lt (by (with_reducible repeat (first | apply Kd.R_alloc | apply Kd.R_drewN | apply Kd.R_drew)); exact HO410.out))) (Kd.R_lt (by (with_reducible repeat (first | apply Kd.R_alloc | apply Kd.R_drewN | apply Kd.R_drew)); exact HO413.out))) (Kd.R_lt (by (with_reducible repeat (first | apply Kd.R_alloc | apply Kd.R_drewN | apply Kd.R_drew)); exact HO416.out))) (below_size (by repeat (first | (with_reducible first | exact HB.out | apply below_alloc | apply pw_below_drewN | apply below_drew1) | exact HB.out)))); have n6_ := Aside0.mk (below_step (by repeat (first | (with_reducible first | exact HB.out | apply below_alloc | apply pw_below_drewN | apply below_drew1) | exact HB.out)) hb); clear HO404; clear HO407; clear HO410; clear HO413; clear HO416; clear HB; have HO404 := n0_; have HO407 := n1_; have HO410 := n2_; have HO413 := n3_; have HO416 := n4_; have HO419 := n5_; have HB := n6_; clear n0_ n1_ n2_ n3_ n4_ n5_ n6_; clear hb ho12) | ((with_reducible refine gate_dst (N := 7) rfl ?_); refine Kd.R_lit (Kd.int .i64) _ 3 ?hg (N := 7) ?hd (xs := ([1, 3, 3, 1, 1] : List Int)) (inner := [.int .i64 1, .int .i64 3, .int .i64 3, .int .i64 1, .int .i64 1]) (ok := fun _ => True) (okp := fun _ => True) ?hr ?hp (fun _ hk => hk) trivial (Below.refl _ _) (Nat.le_refl _) (by simp) ?_; (case hd => rfl); (case hg => rfl); (case hr => first | (go_simp; done) | (go_simp; rfl)); (case hp => exact (Reps.one (show Kd.M (Kd.int .i64) _ _ _ 1 [.int .i64 1] from rfl) (Reps.one (show Kd.M (Kd.int .i64) _ _ _ 3 [.int .i64 3] from rfl) (Reps.one (show Kd.M (Kd.int .i64) _ _ _ 3 [.int .i64 3] from rfl) (Reps.one (show Kd.M (Kd.int .i64) _ _ _ 1 [.int .i64 1] from rfl) (Reps.one (show Kd.M (Kd.int .i64) _ _ _ 1 [.int .i64 1] from rfl) (Reps.none _ _))))))); intro v421 w13 ho14 hb hg_ hnew_; clear hg_ hnew_; (first | rw [← Ny420.out] at ho14 | (simp only [Int.reduceToNat] at ho14; rw [← Ny420.out] at ho14)); have n0_ := Aside0.mk (Kd.R_elder' (by (with_reducible repeat (first | apply Kd.R_alloc | apply Kd.R_drewN | apply Kd.R_drew)); exact HO404.out) (Kd.R_base ho14) hb); have n1_ := Aside0.mk (Kd.R_elder' (by (with_reducible repeat (first | apply Kd.R_alloc | apply Kd.R_drewN | apply Kd.R_drew)); exact HO407.out) (Kd.R_base ho14) hb); have n2_ := Aside0.mk (Kd.R_elder' (by (with_reducible repeat (first | apply Kd.R_alloc | apply Kd.R_drewN | apply Kd.R_drew)); exact HO410.out) (Kd.R_base ho14) hb); have n3_ := Aside0.mk (Kd.R_elder' (by (with_reducible repeat (first | apply Kd.R_alloc | apply Kd.R_drewN | apply Kd.R_drew)); exact HO413.out) (Kd.R_base ho14) hb); have n4_ := Aside0.mk (Kd.R_elder' (by (with_reducible repeat (first | apply Kd.R_alloc | apply Kd.R_drewN | apply Kd.R_drew)); exact HO416.out) (Kd.R_base ho14) hb); have n5_ := Aside0.mk (Kd.R_elder' (by (with_reducible repeat (first | apply Kd.R_alloc | apply Kd.R_drewN | apply Kd.R_drew)); exact HO419.out) (Kd.R_base ho14) hb); have n6_ := Aside0.mk (Kd.R_lower (Kd.R_new' (Kd.R_new' (Kd.R_new' (Kd.R_new' (Kd.R_new' (Kd.R_new' (Kd.R_newM (M := fun k_ => (w.heap.size ≤ k_)) ho14 (below_size (by repeat (first | (with_reducible first | exact HB.out | apply below_alloc | apply pw_below_drewN | apply below_drew1) | exact HB.out))) (fun k_ h_ => h_)) (Kd.R_lt (by (with_reducible repeat (first | apply Kd.R_alloc | apply Kd.R_drewN | apply Kd.R_drew)); exact HO404.out))) (Kd.R_lt (by (with_reducible repeat (first | apply Kd.R_alloc | apply Kd.R_drewN | apply Kd.R_drew)); exact HO407.out))) (Kd.R_lt (by (with_reducible repeat (first | apply Kd.R_alloc | apply Kd.R_drewN | apply Kd.R_drew)); exact HO410.out))) (Kd.R_lt (by (with_reducible repeat (first | apply Kd.R_alloc | apply Kd.R_drewN | apply Kd.R_drew)); exact HO413.out))) (Kd.R_lt (by (with_reducible repeat (first | apply Kd.R_alloc | apply Kd.R_drewN | apply Kd.R_drew)); exact HO416.out))) (Kd.R_lt (by (with_reducible repeat (first | apply Kd.R_alloc | apply Kd.R_drewN | apply Kd.R_drew)); exact HO419.out))) (below_size (by repeat (first | (with_reducible first | exact HB.out | apply below_alloc | apply pw_below_drewN | apply below_drew1) | exact HB.out)))); have n7_ := Aside0.mk (below_step (by repeat (first | (with_reducible first | exact HB.out | apply below_alloc | apply pw_below_drewN | apply below_drew1) | exact HB.out)) hb); clear HO404; clear HO407; clear HO410; clear HO413; clear HO416; clear HO419; clear HB; have HO404 := n0_; have HO407 := n1_; have HO410 := n2_; have HO413 := n3_; have HO416 := n4_; have HO419 := n5_; have HO422 := n6_; have HB := n7_; clear n0_ n1_ n2_ n3_ n4_ n5_ n6_ n7_; clear hb ho14) | ((with_reducible refine gate_dst (N := 8) rfl ?_); refine Kd.R_lit (Kd.int .i64) _ 3 ?hg (N := 8) ?hd (xs := ([1, 1, 1, 3, 3] : List Int)) (inner := [.int .i64 1, .int .i64 1, .int .i64 1, .int .i64 3, .int .i64 3]) (ok := fun _ => True) (okp := fun _ => True) ?hr ?hp (fun _ hk => hk) trivial (Below.refl _ _) (Nat.le_refl _) (by simp) ?_; (case hd => rfl); (case hg => rfl); (case hr => first | (go_simp; done) | (go_simp; rfl)); (case hp => exact (Reps.one (show Kd.M (Kd.int .i64) _ _ _ 1 [.int .i64 1] from rfl) (Reps.one (show Kd.M (Kd.int .i64) _ _ _ 1 [.int .i64 1] from rfl) (Reps.one (show Kd.M (Kd.int .i64) _ _ _ 1 [.int .i64 1] from rfl) (Reps.one (show Kd.M (Kd.int .i64) _ _ _ 3 [.int .i64 3] from rfl) (Reps.one (show Kd.M (Kd.int .i64) _ _ _ 3 [.int .i64 3] from rfl) (Reps.none _ _))))))); intro v424 w15 ho16 hb hg_ hnew_; clear hg_ hnew_; (first | rw [← Ny423.out] at ho16 | (simp only [Int.reduceToNat] at ho16; rw [← Ny423.out] at ho16)); have n0_ := Aside0.mk (Kd.R_elder' (by (with_reducible repeat (first | apply Kd.R_alloc | apply Kd.R_drewN | apply Kd.R_drew)); exact HO404.out) (Kd.R_base ho16) hb); have n1_ := Aside0.mk (Kd.R_elder' (by (with_reducible repeat (first | apply Kd.R_alloc | apply Kd.R_drewN | apply Kd.R_drew)); exact HO407.out) (Kd.R_base ho16) hb); have n2_ := Aside0.mk (Kd.R_elder' (by (with_reducible repeat (first | apply Kd.R_alloc | apply Kd.R_drewN | apply Kd.R_drew)); exact HO410.out) (Kd.R_base ho16) hb); have n3_ := Aside0.mk (Kd.R_elder' (by (with_reducible repeat (first | apply Kd.R_alloc | apply Kd.R_drewN | apply Kd.R_drew)); exact HO413.out) (Kd.R_base ho16) hb); have n4_ := Aside0.mk (Kd.R_elder' (by (with_reducible repeat (first | apply Kd.R_alloc | apply Kd.R_drewN | apply Kd.R_drew)); exact HO416.out) (Kd.R_base ho16) hb); have n5_ := Aside0.mk (Kd.R_elder' (by (with_reducible repeat (first | apply Kd.R_alloc | apply Kd.R_drewN | apply Kd.R_drew)); exact HO419.out) (Kd.R_base ho16) hb); have n6_ := Aside0.mk (Kd.R_elder' (by (with_reducible repeat (first | apply Kd.R_alloc | apply Kd.R_drewN | apply Kd.R_drew)); exact HO422.out) (Kd.R_base ho16) hb); have n7_ := Aside0.mk (Kd.R_lower (Kd.R_new' (Kd.R_new' (Kd.R_new' (Kd.R_new' (Kd.R_new' (Kd.R_new' (Kd.R_new' (Kd.R_newM (M := fun k_ => (w.heap.size ≤ k_)) ho16 (below_size (by repeat (first | (with_reducible first | exact HB.out | apply below_alloc | apply pw_below_drewN | apply below_drew1) | exact HB.out))) (fun k_ h_ => h_)) (Kd.R_lt (by (with_reducible repeat (first | apply Kd.R_alloc | apply Kd.R_drewN | apply Kd.R_drew)); exact HO404.out))) (Kd.R_lt (by (with_reducible repeat (first | apply Kd.R_alloc | apply Kd.R_drewN | apply Kd.R_drew)); exact HO407.out))) (Kd.R_lt (by (with_reducible repeat (first | apply Kd.R_alloc | apply Kd.R_drewN | apply Kd.R_drew)); exact HO410.out))) (Kd.R_lt (by (with_reducible repeat (first | apply Kd.R_alloc | apply Kd.R_drewN | apply Kd.R_drew)); exact HO413.out))) (Kd.R_lt (by (with_reducible repeat (first | apply Kd.R_alloc | apply Kd.R_drewN | apply Kd.R_drew)); exact HO416.out))) (Kd.R_lt (by (with_reducible repeat (first | apply Kd.R_alloc | apply Kd.R_drewN | apply Kd.R_drew)); exact HO419.out))) (Kd.R_lt (by (with_reducible repeat (first | apply Kd.R_alloc | apply Kd.R_drewN | apply Kd.R_drew)); exact HO422.out))) (below_size (by repeat (first | (with_reducible first | exact HB.out | apply below_alloc | apply pw_below_drewN | apply below_drew1) | exact HB.out)))); have n8_ := Aside0.mk (below_step (by repeat (first | (with_reducible first | exact HB.out | apply below_alloc | apply pw_below_drewN | apply below_drew1) | exact HB.out)) hb); clear HO404; clear HO407; clear HO410; clear HO413; clear HO416; clear HO419; clear HO422; clear HB; have HO404 := n0_; have HO407 := n1_; have HO410 := n2_; have HO413 := n3_; have HO416 := n4_; have HO419 := n5_; have HO422 := n6_; have HO425 := n7_; have HB := n8_; clear n0_ n1_ n2_ n3_ n4_ n5_ n6_ n7_ n8_; clear hb ho16) | ((with_reducible refine gate_dst (N := 9) rfl ?_); refine Kd.R_lit (Kd.int .i64) _ 3 ?hg (N := 9) ?hd (xs := ([3, 1, 1, 3, 1] : List Int)) (inner := [.int .i64 3, .int .i64 1, .int .i64 1, .int .i64 3, .int .i64 1]) (ok := fun _ => True) (okp := fun _ => True) ?hr ?hp (fun _ hk => hk) trivial (Below.refl _ _) (Nat.le_refl _) (by simp) ?_; (case hd => rfl); (case hg => rfl); (case hr => first | (go_simp; done) | (go_simp; rfl)); (case hp => exact (Reps.one (show Kd.M (Kd.int .i64) _ _ _ 3 [.int .i64 3] from rfl) (Reps.one (show Kd.M (Kd.int .i64) _ _ _ 1 [.int .i64 1] from rfl) (Reps.one (show Kd.M (Kd.int .i64) _ _ _ 1 [.int .i64 1] from rfl) (Reps.one (show Kd.M (Kd.int .i64) _ _ _ 3 [.int .i64 3] from rfl) (Reps.one (show Kd.M (Kd.int .i64) _ _ _ 1 [.int .i64 1] from rfl) (Reps.none _ _))))))); intro v427 w17 ho18 hb hg_ hnew_; clear hg_ hnew_; (first | rw [← Ny426.out] at ho18 | (simp only [Int.reduceToNat] at ho18; rw [← Ny426.out] at ho18)); have n0_ := Aside0.mk (Kd.R_elder' (by (with_reducible repeat (first | apply Kd.R_alloc | apply Kd.R_drewN | apply Kd.R_drew)); exact HO404.out) (Kd.R_base ho18) hb); have n1_ := Aside0.mk (Kd.R_elder' (by (with_reducible repeat (first | apply Kd.R_alloc | apply Kd.R_drewN | apply Kd.R_drew)); exact HO407.out) (Kd.R_base ho18) hb); have n2_ := Aside0.mk (Kd.R_elder' (by (with_reducible repeat (first | apply Kd.R_alloc | apply Kd.R_drewN | apply Kd.R_drew)); exact HO410.out) (Kd.R_base ho18) hb); have n3_ := Aside0.mk (Kd.R_elder' (by (with_reducible repeat (first | apply Kd.R_alloc | apply Kd.R_drewN | apply Kd.R_drew)); exact HO413.out) (Kd.R_base ho18) hb); have n4_ := Aside0.mk (Kd.R_elder' (by (with_reducible repeat (first | apply Kd.R_alloc | apply Kd.R_drewN | apply Kd.R_drew)); exact HO416.out) (Kd.R_base ho18) hb); have n5_ := Aside0.mk (Kd.R_elder' (by (with_reducible repeat (first | apply Kd.R_alloc | apply Kd.R_drewN | apply Kd.R_drew)); exact HO419.out) (Kd.R_base ho18) hb); have n6_ := Aside0.mk (Kd.R_elder' (by (with_reducible repeat (first | apply Kd.R_alloc | apply Kd.R_drewN | apply Kd.R_drew)); exact HO422.out) (Kd.R_base ho18) hb); have n7_ := Aside0.mk (Kd.R_elder' (by (with_reducible repeat (first | apply Kd.R_alloc | apply Kd.R_drewN | apply Kd.R_drew)); exact HO425.out) (Kd.R_base ho18) hb); have n8_ := Aside0.mk (Kd.R_lower (Kd.R_new' (Kd.R_new' (Kd.R_new' (Kd.R_new' (Kd.R_new' (Kd.R_new' (Kd.R_new' (Kd.R_new' (Kd.R_newM (M := fun k_ => (w.heap.size ≤ k_)) ho18 (below_size (by repeat (first | (with_reducible first | exact HB.out | apply below_alloc | apply pw_below_drewN | apply below_drew1) | exact HB.out))) (fun k_ h_ => h_)) (Kd.R_lt (by (with_reducible repeat (first | apply Kd.R_alloc | apply Kd.R_drewN | apply Kd.R_drew)); exact HO404.out))) (Kd.R_lt (by (with_reducible repeat (first | apply Kd.R_alloc | apply Kd.R_drewN | apply Kd.R_drew)); exact HO407.out))) (Kd.R_lt (by (with_reducible repeat (first | apply Kd.R_alloc | apply Kd.R_drewN | apply Kd.R_drew)); exact HO410.out))) (Kd.R_lt (by (with_reducible repeat (first | apply Kd.R_alloc | apply Kd.R_drewN | apply Kd.R_drew)); exact HO413.out))) (Kd.R_lt (by (with_reducible repeat (first | apply Kd.R_alloc | apply Kd.R_drewN | apply Kd.R_drew)); exact HO416.out))) (Kd.R_lt (by (with_reducible repeat (first | apply Kd.R_alloc | apply Kd.R_drewN | apply Kd.R_drew)); exact HO419.out))) (Kd.R_lt (by (with_reducible repeat (first | apply Kd.R_alloc | apply Kd.R_drewN | apply Kd.R_drew)); exact HO422.out))) (Kd.R_lt (by (with_reducible repeat (first | apply Kd.R_alloc | apply Kd.R_drewN | apply Kd.R_drew)); exact HO425.out))) (below_size (by repeat (first | (with_reducible first | exact HB.out | apply below_alloc | apply pw_below_drewN | apply below_drew1) | exact HB.out)))); have n9_ := Aside0.mk (below_step (by repeat (first | (with_reducible first | exact HB.out | apply below_alloc | apply pw_below_drewN | apply below_drew1) | exact HB.out)) hb); clear HO404; clear HO407; clear HO410; clear HO413; clear HO416; clear HO419; clear HO422; clear HO425; clear HB; have HO404 := n0_; have HO407 := n1_; have HO410 := n2_; have HO413 := n3_; have HO416 := n4_; have HO419 := n5_; have HO422 := n6_; have HO425 := n7_; have HO428 := n8_; have HB := n9_; clear n0_ n1_ n2_ n3_ n4_ n5_ n6_ n7_ n8_ n9_; clear hb ho18) | ((with_reducible refine gate_dst (N := 10) rfl ?_); refine Kd.R_lit (Kd.int .i64) _ 3 ?hg (N := 10) ?hd (xs := ([1, 3, 1, 3, 1] : List Int)) (inner := [.int .i64 1, .int .i64 3, .int .i64 1, .int .i64 3, .int .i64 1]) (ok := fun _ => True) (okp := fun _ => True) ?hr ?hp (fun _ hk => hk) trivial (Below.refl _ _) (Nat.le_refl _) (by simp) ?_; (case hd => rfl); (case hg => rfl); (case hr => first | (go_simp; done) | (go_simp; rfl)); (case hp => exact (Reps.one (show Kd.M (Kd.int .i64) _ _ _ 1 [.int .i64 1] from rfl) (Reps.one (show Kd.M (Kd.int .i64) _ _ _ 3 [.int .i64 3] from rfl) (Reps.one (show Kd.M (Kd.int .i64) _ _ _ 1 [.int .i64 1] from rfl) (Reps.one (show Kd.M (Kd.int .i64) _ _ _ 3 [.int .i64 3] from rfl) (Reps.one (show Kd.M (Kd.int .i64) _ _ _ 1 [.int .i64 1] from rfl) (Reps.none _ _))))))); intro v430 w19 ho20 hb hg_ hnew_; clear hg_ hnew_; (first | rw [← Ny429.out] at ho20 | (simp only [Int.reduceToNat] at ho20; rw [← Ny429.out] at ho20)); have n0_ := Aside0.mk (Kd.R_elder' (by (with_reducible repeat (first | apply Kd.R_alloc | apply Kd.R_drewN | apply Kd.R_drew)); exact HO404.out) (Kd.R_base ho20) hb); have n1_ := Aside0.mk (Kd.R_elder' (by (with_reducible repeat (first | apply Kd.R_alloc | apply Kd.R_drewN | apply Kd.R_drew)); exact HO407.out) (Kd.R_base ho20) hb); have n2_ := Aside0.mk (Kd.R_elder' (by (with_reducible repeat (first | apply Kd.R_alloc | apply Kd.R_drewN | apply Kd.R_drew)); exact HO410.out) (Kd.R_base ho20) hb); have n3_ := Aside0.mk (Kd.R_elder' (by (with_reducible repeat (first | apply Kd.R_alloc | apply Kd.R_drewN | apply Kd.R_drew)); exact HO413.out) (Kd.R_base ho20) hb); have n4_ := Aside0.mk (Kd.R_elder' (by (with_reducible repeat (first | apply Kd.R_alloc | apply Kd.R_drewN | apply Kd.R_drew)); exact HO416.out) (Kd.R_base ho20) hb); have n5_ := Aside0.mk (Kd.R_elder' (by (with_reducible repeat (first | apply Kd.R_alloc | apply Kd.R_drewN | apply Kd.R_drew)); exact HO419.out) (Kd.R_base ho20) hb); have n6_ := Aside0.mk (Kd.R_elder' (by (with_reducible repeat (first | apply Kd.R_alloc | apply Kd.R_drewN | apply Kd.R_drew)); exact HO422.out) (Kd.R_base ho20) hb); have n7_ := Aside0.mk (Kd.R_elder' (by (with_reducible repeat (first | apply Kd.R_alloc | apply Kd.R_drewN | apply Kd.R_drew)); exact HO425.out) (Kd.R_base ho20) hb); have n8_ := Aside0.mk (Kd.R_elder' (by (with_reducible repeat (first | apply Kd.R_alloc | apply Kd.R_drewN | apply Kd.R_drew)); exact HO428.out) (Kd.R_base ho20) hb); have n9_ := Aside0.mk (Kd.R_lower (Kd.R_new' (Kd.R_new' (Kd.R_new' (Kd.R_new' (Kd.R_new' (Kd.R_new' (Kd.R_new' (Kd.R_new' (Kd.R_new' (Kd.R_newM (M := fun k_ => (w.heap.size ≤ k_)) ho20 (below_size (by repeat (first | (with_reducible first | exact HB.out | apply below_alloc | apply pw_below_drewN | apply below_drew1) | exact HB.out))) (fun k_ h_ => h_)) (Kd.R_lt (by (with_reducible repeat (first | apply Kd.R_alloc | apply Kd.R_drewN | apply Kd.R_drew)); exact HO404.out))) (Kd.R_lt (by (with_reducible repeat (first | apply Kd.R_alloc | apply Kd.R_drewN | apply Kd.R_drew)); exact HO407.out))) (Kd.R_lt (by (with_reducible repeat (first | apply Kd.R_alloc | apply Kd.R_drewN | apply Kd.R_drew)); exact HO410.out))) (Kd.R_lt (by (with_reducible repeat (first | apply Kd.R_alloc | apply Kd.R_drewN | apply Kd.R_drew)); exact HO413.out))) (Kd.R_lt (by (with_reducible repeat (first | apply Kd.R_alloc | apply Kd.R_drewN | apply Kd.R_drew)); exact HO416.out))) (Kd.R_lt (by (with_reducible repeat (first | apply Kd.R_alloc | apply Kd.R_drewN | apply Kd.R_drew)); exact HO419.out))) (Kd.R_lt (by (with_reducible repeat (first | apply Kd.R_alloc | apply Kd.R_drewN | apply Kd.R_drew)); exact HO422.out))) (Kd.R_lt (by (with_reducible repeat (first | apply Kd.R_alloc | apply Kd.R_drewN | apply Kd.R_drew)); exact HO425.out))) (Kd.R_lt (by (with_reducible repeat (first | apply Kd.R_alloc | apply Kd.R_drewN | apply Kd.R_drew)); exact HO428.out))) (below_size (by repeat (first | (with_reducible first | exact HB.out | apply below_alloc | apply pw_below_drewN | apply below_drew1) | exact HB.out)))); have n10_ := Aside0.mk (below_step (by repeat (first | (with_reducible first | exact HB.out | apply below_alloc | apply pw_below_drewN | apply below_drew1) | exact HB.out)) hb); clear HO404; clear HO407; clear HO410; clear HO413; clear HO416; clear HO419; clear HO422; clear HO425; clear HO428; clear HB; have HO404 := n0_; have HO407 := n1_; have HO410 := n2_; have HO413 := n3_; have HO416 := n4_; have HO419 := n5_; have HO422 := n6_; have HO425 := n7_; have HO428 := n8_; have HO431 := n9_; have HB := n10_; clear n0_ n1_ n2_ n3_ n4_ n5_ n6_ n7_ n8_ n9_ n10_; clear hb ho20; obtain ⟨Ao21, co21, eo21⟩ := Kd.R_slice HO404.out; subst eo21; obtain ⟨Ao22, co22, eo22⟩ := Kd.R_slice HO407.out; subst eo22; obtain ⟨Ao23, co23, eo23⟩ := Kd.R_slice HO410.out; subst eo23; obtain ⟨Ao24, co24, eo24⟩ := Kd.R_slice HO413.out; subst eo24; obtain ⟨Ao25, co25, eo25⟩ := Kd.R_slice HO416.out; subst eo25; obtain ⟨Ao26, co26, eo26⟩ := Kd.R_slice HO419.out; subst eo26; obtain ⟨Ao27, co27, eo27⟩ := Kd.R_slice HO422.out; subst eo27; obtain ⟨Ao28, co28, eo28⟩ := Kd.R_slice HO425.out; subst eo28; obtain ⟨Ao29, co29, eo29⟩ := Kd.R_slice HO428.out; subst eo29; obtain ⟨Ao30, co30, eo30⟩ := Kd.R_slice HO431.out; subst eo30) | ((with_reducible refine gate_dst (N := 11) rfl ?_); refine Kd.N_lit (Kd.slice 3 (Kd.int .i64)) _ 40 ?hg (N' := 11) ?hd (xs := ([y402, y405, y408, y411, y414, y417, y420, y423, y426, y429] : List (List Int))) (inner := [.slice Ao21 y402.length co21, .slice Ao22 y405.length co22, .slice Ao23 y408.length co23, .slice Ao24 y411.length co24, .slice Ao25 y414.length co25, .slice Ao26 y417.length co26, .slice Ao27 y420.length co27, .slice Ao28 y423.length co28, .slice Ao29 y426.length co29, .slice Ao30 y429.length co30]) (ok := (fun k_ => (w.heap.size ≤ k_))) (okp := (fun k_ => (w.heap.size ≤ k_))) ?hr ?hp (fun _ hk => hk) ((show ∀ k_, w19.heap.size ≤ k_ → (fun k_ => (w.heap.size ≤ k_)) k_ from fun k_ hk => (Nat.le_trans (below_size (by repeat (first | (with_reducible first | exact HB.out | apply below_alloc | apply pw_below_drewN | apply below_drew1) | exact HB.out))) hk)) _ (Nat.le_refl _)) (Below.refl _ _) (Nat.le_refl _) (by simp) ?_; (case hd => rfl); (case hg => rfl); (case hr => first | (go_simp; done) | (go_simp; rfl)); (case hp => exact (Reps.one (show Kd.FK (Kd.slice 3 (Kd.int .i64)) _ _ y402 [.slice Ao21 y402.length co21] from (Kd.FK_slice_mk (Kd.R_reads' (Kd.R_mono (ok' := (fun k_ => (w.heap.size ≤ k_))) (HO404.out) (fun k_ hk => hk.1.1.1.1.1.1.1.1.1.1))).2.1 (Kd.R_F (Kd.R_mono (ok' := (fun k_ => (w.heap.size ≤ k_))) (HO404.out) (fun k_ hk => hk.1.1.1.1.1.1.1.1.1.1))))) (Reps.one (show Kd.FK (Kd.slice 3 (Kd.int .i64)) _ _ y405 [.slice Ao22 y405.length co22] from (Kd.FK_slice_mk (Kd.R_reads' (Kd.R_mono (ok' := (fun k_ => (w.heap.size ≤ k_))) (HO407.out) (fun k_ hk => hk.1.1.1.1.1.1.1.1.1.1))).2.1 (Kd.R_F (Kd.R_mono (ok' := (fun k_ => (w.heap.size ≤ k_))) (HO407.out) (fun k_ hk => hk.1.1.1.1.1.1.1.1.1.1))))) (Reps.one (show Kd.FK (Kd.slice 3 (Kd.int .i64)) _ _ y408 [.slice Ao23 y408.length co23] from (Kd.FK_slice_mk (Kd.R_reads' (Kd.R_mono (ok' := (fun k_ => (w.heap.size ≤ k_))) (HO410.out) (fun k_ hk => hk.1.1.1.1.1.1.1.1.1.1))).2.1 (Kd.R_F (Kd.R_mono (ok' := (fun k_ => (w.heap.size ≤ k_))) (HO410.out) (fun k_ hk => hk.1.1.1.1.1.1.1.1.1.1))))) (Reps.one (show Kd.FK (Kd.slice 3 (Kd.int .i64)) _ _ y411 [.slice Ao24 y411.length co24] from (Kd.FK_slice_mk (Kd.R_reads' (Kd.R_mono (ok' := (fun k_ => (w.heap.size ≤ k_))) (HO413.out) (fun k_ hk => hk.1.1.1.1.1.1.1.1.1.1))).2.1 (Kd.R_F (Kd.R_mono (ok' := (fun k_ => (w.heap.size ≤ k_))) (HO413.out) (fun k_ hk => hk.1.1.1.1.1.1.1.1.1.1))))) (Reps.one (show Kd.FK (Kd.slice 3 (Kd.int .i64)) _ _ y414 [.slice Ao25 y414.length co25] from (Kd.FK_slice_mk (Kd.R_reads' (Kd.R_mono (ok' := (fun k_ => (w.heap.size ≤ k_))) (HO416.out) (fun k_ hk => hk.1.1.1.1.1.1.1.1.1.1))).2.1 (Kd.R_F (Kd.R_mono (ok' := (fun k_ => (w.heap.size ≤ k_))) (HO416.out) (fun k_ hk => hk.1.1.1.1.1.1.1.1.1.1))))) (Reps.one (show Kd.FK (Kd.slice 3 (Kd.int .i64)) _ _ y417 [.slice Ao26 y417.length co26] from (Kd.FK_slice_mk (Kd.R_reads' (Kd.R_mono (ok' := (fun k_ => (w.heap.size ≤ k_))) (HO419.out) (fun k_ hk => hk.1.1.1.1.1.1.1.1.1.1))).2.1 (Kd.R_F (Kd.R_mono (ok' := (fun k_ => (w.heap.size ≤ k_))) (HO419.out) (fun k_ hk => hk.1.1.1.1.1.1.1.1.1.1))))) (Reps.one (show Kd.FK (Kd.slice 3 (Kd.int .i64)) _ _ y420 [.slice Ao27 y420.length co27] from (Kd.FK_slice_mk (Kd.R_reads' (Kd.R_mono (ok' := (fun k_ => (w.heap.size ≤ k_))) (HO422.out) (fun k_ hk => hk.1.1.1.1.1.1.1.1.1.1))).2.1 (Kd.R_F (Kd.R_mono (ok' := (fun k_ => (w.heap.size ≤ k_))) (HO422.out) (fun k_ hk => hk.1.1.1.1.1.1.1.1.1.1))))) (Reps.one (show Kd.FK (Kd.slice 3 (Kd.int .i64)) _ _ y423 [.slice Ao28 y423.length co28] from (Kd.FK_slice_mk (Kd.R_reads' (Kd.R_mono (ok' := (fun k_ => (w.heap.size ≤ k_))) (HO425.out) (fun k_ hk => hk.1.1.1.1.1.1.1.1.1.1))).2.1 (Kd.R_F (Kd.R_mono (ok' := (fun k_ => (w.heap.size ≤ k_))) (HO425.out) (fun k_ hk => hk.1.1.1.1.1.1.1.1.1.1))))) (Reps.one (show Kd.FK (Kd.slice 3 (Kd.int .i64)) _ _ y426 [.slice Ao29 y426.length co29] from (Kd.FK_slice_mk (Kd.R_reads' (Kd.R_mono (ok' := (fun k_ => (w.heap.size ≤ k_))) (HO428.out) (fun k_ hk => hk.1.1.1.1.1.1.1.1.1.1))).2.1 (Kd.R_F (Kd.R_mono (ok' := (fun k_ => (w.heap.size ≤ k_))) (HO428.out) (fun k_ hk => hk.1.1.1.1.1.1.1.1.1.1))))) (Reps.one (show Kd.FK (Kd.slice 3 (Kd.int .i64)) _ _ y429 [.slice Ao30 y429.length co30] from (Kd.FK_slice_mk (Kd.R_reads' (Kd.R_mono (ok' := (fun k_ => (w.heap.size ≤ k_))) (HO431.out) (fun k_ hk => hk.1.1.1.1.1.1.1.1.1.1))).2.1 (Kd.R_F (Kd.R_mono (ok' := (fun k_ => (w.heap.size ≤ k_))) (HO431.out) (fun k_ hk => hk.1.1.1.1.1.1.1.1.1.1))))) (Reps.none _ _)))))))))))); intro v433 w31 ho32 hb hg_ hnew_; clear hg_ hnew_; (first | rw [← Ny432.out] at ho32 | (simp only [Int.reduceToNat] at ho32; rw [← Ny432.out] at ho32)); have n0_ := Aside0.mk (Kd.N_lower ho32 (below_size (by repeat (first | (with_reducible first | exact HB.out | apply below_alloc | apply pw_below_drewN | apply below_drew1) | exact HB.out)))); have n1_ := Aside0.mk (below_step (by repeat (first | (with_reducible first | exact HB.out | apply below_alloc | apply pw_below_drewN | apply below_drew1) | exact HB.out)) hb); clear HB; clear HO404; clear HO407; clear HO410; clear HO413; clear HO416; clear HO419; clear HO422; clear HO425; clear HO428; clear HO431; have HO434 := n0_; have HB := n1_; clear n0_ n1_; clear hb ho32))
  go_ret
  exact ⟨_, by first | rfl | (simp [errW_none, errW_some] <;> rfl) | (simp [*, errW_none, errW_some] <;> rfl), by (with_reducible repeat (first | apply Kd.N_alloc | apply Kd.N_drewN | apply Kd.N_drew)); exact HO434.out, by repeat (first | (with_reducible first | exact HB.out | apply below_alloc | apply pw_below_drewN | apply below_drew1) | exact HB.out)⟩

/-! ### oned_itfWriter_END_PATTERN: function 175 -/
def oned_itfWriter_END_PATTERN.f  : Option (List Int) := some (([3, 1, 1] : List Int))
set_option maxHeartbeats 8000000 in
set_option maxRecDepth 100000 in
theorem oned_itfWriter_END_PATTERN.calls  (r : List Int) (w : World) (h : oned_itfWriter_END_PATTERN.f  = some r) :
    Calls Tryz.prog 175 #[] w fun e w' => ∃ v0_ : Value, e = .returned (v0_) ∧ Kd.R (Kd.int .i64) 3 w' w.heap.size (fun _ => True) v0_ r ∧ Below w.heap.size w w' := by
  have HB := Aside0.mk (Below.refl w.heap.size w)
  have H : (some (([3, 1, 1] : List Int))) = some r := h
  clear h
  obtain ⟨y435, hy435⟩ : ∃ y_ : List Int, y_ = (([3, 1, 1] : List Int)) := ⟨_, rfl⟩
  replace H : (some y435) = some r := by first | (rw [hy435]; with_reducible exact H) | (have H2_ := (Option.bind_some _ _).symm.trans H; rw [hy435]; with_reducible exact H2_) | (have H2_ := (Option.bind_some _ _).symm.trans H; with_reducible exact H2_) | with_reducible exact H | (rw [hy435]; exact H) | exact H
  have Ny435 := Aside0.mk hy435
  clear hy435
  obtain rfl := Option.some.inj H
  go_enter Tryz.func175, Tryz.ntmps175
  go_wp2_with (first | ((with_reducible refine gate_dst (N := 1) rfl ?_); refine Kd.R_lit (Kd.int .i64) _ 3 ?hg (N := 1) ?hd (xs := ([3, 1, 1] : List Int)) (inner := [.int .i64 3, .int .i64 1, .int .i64 1]) (ok := fun _ => True) (okp := fun _ => True) ?hr ?hp (fun _ hk => hk) trivial (Below.refl _ _) (Nat.le_refl _) (by simp) ?_; (case hd => rfl); (case hg => rfl); (case hr => first | (go_simp; done) | (go_simp; rfl)); (case hp => exact (Reps.one (show Kd.M (Kd.int .i64) _ _ _ 3 [.int .i64 3] from rfl) (Reps.one (show Kd.M (Kd.int .i64) _ _ _ 1 [.int .i64 1] from rfl) (Reps.one (show Kd.M (Kd.int .i64) _ _ _ 1 [.int .i64 1] from rfl) (Reps.none _ _))))); intro v436 w1 ho2 hb hg_ hnew_; clear hg_ hnew_; (first | rw [← Ny435.out] at ho2 | (simp only [Int.reduceToNat] at ho2; rw [← Ny435.out] at ho2)); have n0_ := Aside0.mk (Kd.R_lower ho2 (below_size (by repeat (first | (with_reducible first | exact HB.out | apply below_alloc | apply pw_below_drewN | apply below_drew1) | exact HB.out)))); have n1_ := Aside0.mk (below_step (by repeat (first | (with_reducible first | exact HB.out | apply below_alloc | apply pw_below_drewN | apply below_drew1) | exact HB.out)) hb); clear HB; have HO437 := n0_; have HB := n1_; clear n0_ n1_; clear hb ho2))
  go_ret
  exact ⟨_, by first | rfl | (simp [errW_none, errW_some] <;> rfl) | (simp [*, errW_none, errW_some] <;> rfl), by (with_reducible repeat (first | apply Kd.R_alloc | apply Kd.R_drewN | apply Kd.R_drew)); exact HO437.out, by repeat (first | (with_reducible first | exact HB.out | apply below_alloc | apply pw_below_drewN | apply below_drew1) | exact HB.out)⟩

-- NOT PRINTED: function 171 (oned_itfEncoder_encodeWithHints)

/-! ### spec_ODBars: function 38 -/
mutual
def spec_ODBars.l0 : Nat → List Int → List Bool → Int → Option (List Bool)
  | 0, _, _, _ => none
  | k + 1, x0, x3, x4 => if x4 < (x0.length : Int) then (spec_ODBars.l1 k x0 x3 x4 0) else (some x3)
def spec_ODBars.l1 : Nat → List Int → List Bool → Int → Int → Option (List Bool)
  | 0, _, _, _, _ => none
  | k + 1, x0, x3, x4, x5 => if 0 ≤ x4 then (if x4 < (x0.length : Int) then (if x5 < (rd x0 x4) then (if x3.length < 140737488355328 then (spec_ODBars.l1 k x0 (x3 ++ [((Int.tmod x4 2) == 0)]) x4 (wrap64 (x5 + 1))) else (none)) else (spec_ODBars.l0 k x0 x3 (wrap64 (x4 + 1)))) else (none)) else (none)
end
def spec_ODBars.f (k : Nat) (l0 : List Int) : Option (List Bool) := spec_ODBars.l0 k l0 ([] : List Bool) 0
theorem spec_ODBars.mono_l : ∀ k, (∀ y0 y1 y2, LeO (spec_ODBars.l0 k y0 y1 y2) (spec_ODBars.l0 (k + 1) y0 y1 y2)) ∧ (∀ y0 y1 y2 y3, LeO (spec_ODBars.l1 k y0 y1 y2 y3) (spec_ODBars.l1 (k + 1) y0 y1 y2 y3))
  | 0 => ⟨fun _ _ _ r h => by simp [spec_ODBars.l0] at h, fun _ _ _ _ r h => by simp [spec_ODBars.l1] at h⟩
  | k + 1 => by
    obtain ⟨ih0, ih1⟩ := spec_ODBars.mono_l k
    refine ⟨?_, ?_⟩
    · intro y0 y1 y2
      unfold spec_ODBars.l0
      repeat' first
      | (with_reducible exact ih0 _ _ _)
      | (with_reducible exact ih1 _ _ _ _)
      | (with_reducible exact LeO.refl _)
      | (with_reducible exact LeO.none _)
      | (with_reducible refine LeO.ite ?_ ?_)
      | (with_reducible refine LeO.bind ?_ (fun _ => ?_))
      | exact ih0 _ _ _
      | exact ih1 _ _ _ _
      | exact LeO.none _
      | refine LeO.ite ?_ ?_
      | refine LeO.bind ?_ (fun _ => ?_)
    · intro y0 y1 y2 y3
      unfold spec_ODBars.l1
      repeat' first
      | (with_reducible exact ih0 _ _ _)
      | (with_reducible exact ih1 _ _ _ _)
      | (with_reducible exact LeO.refl _)
      | (with_reducible exact LeO.none _)
      | (with_reducible refine LeO.ite ?_ ?_)
      | (with_reducible refine LeO.bind ?_ (fun _ => ?_))
      | exact ih0 _ _ _
      | exact ih1 _ _ _ _
      | exact LeO.none _
      | refine LeO.ite ?_ ?_
      | refine LeO.bind ?_ (fun _ => ?_)
theorem spec_ODBars.mono : ∀ a0 k, LeO (spec_ODBars.f k a0) (spec_ODBars.f (k + 1) a0) := by
  intro a0 k
  obtain ⟨ih0, ih1⟩ := spec_ODBars.mono_l k
  unfold spec_ODBars.f
  repeat' first
      | (with_reducible exact ih0 _ _ _)
      | (with_reducible exact ih1 _ _ _ _)
      | (with_reducible exact LeO.refl _)
      | (with_reducible exact LeO.none _)
      | (with_reducible refine LeO.ite ?_ ?_)
      | (with_reducible refine LeO.bind ?_ (fun _ => ?_))
      | exact ih0 _ _ _
      | exact ih1 _ _ _ _
      | exact LeO.none _
      | refine LeO.ite ?_ ?_
      | refine LeO.bind ?_ (fun _ => ?_)
set_option maxHeartbeats 8000000 in
set_option maxRecDepth 100000 in
theorem spec_ODBars.calls (k : Nat) (A0 : Option Addr) (c0 : Nat) (l0 : List Int) (r : List Bool) (w : World) (hr0 : Kd.C (Kd.int .i64) w A0 l0.length l0) (hc0 : l0.length ≤ c0) (h : spec_ODBars.f k l0 = some r) :
    Calls Tryz.prog 38 #[.slice A0 l0.length c0] w fun e w' => ∃ v0_ : Value, e = .returned (v0_) ∧ Kd.R Kd.bool 4 w' w.heap.size (fun _ => True) v0_ r ∧ Below w.heap.size w w' := by
  have HR0 := Aside0.mk hr0
  have HC0 := Aside0.mk hc0
  clear hr0 hc0
  have HB := Aside0.mk (Below.refl w.heap.size w)
  have H : (spec_ODBars.l0 k l0 ([] : List Bool) 0) = some r := h
  clear h
  have H' := Aside0.mk H
  clear H
  go_enter Tryz.func38, Tryz.ntmps38
  go_wp2
  go_loopg [3, 4] k (fun kq v3 v4 w' => ∃ (x3_1 : List Bool) (x4_1 : Int), v4 = .int .i64 x4_1 ∧ Aside0 (spec_ODBars.l0 kq l0 x3_1 x4_1 = some r) ∧ Aside0 (kq ≤ k) ∧ Aside0 (Kd.R Kd.bool 4 w' w.heap.size (fun _ => True) v3 x3_1) ∧ Aside0 (Below w.heap.size w w'))
  case atStart => exact ⟨(([] : List Bool)), (0), (by first | rfl | (simp; done) | (simp [*]; done)), H', ⟨Nat.le_refl _⟩, ⟨by first | exact Kd.R_nil _ _ _ _ _ | exact Kd.N_nil _ _ _ _ _ | exact Kd.V_nil _ _ _ _ _ | exact Kd.Q_nil _ _ _ _ _ | exact Kd.S_nil _ _ _ _ _⟩, ⟨by repeat (first | (with_reducible first | exact HB.out | apply below_alloc | apply pw_below_drewN | apply below_drew1) | exact HB.out)⟩⟩
  case round =>
    clear H'
    obtain ⟨x3_1, x4_1, rfl, HA, HK1, HO_3, HB⟩ := hrel
    cases gk with
    | zero => exact absurd HA.out (by simp [spec_ODBars.l0])
    | succ k1 =>
      have H := HA.out
      clear HA
      simp only [spec_ODBars.l0] at H
      by_cases c2 : x4_1 < (l0.length : Int)
      · rw [if_pos c2] at H
        have c2b0 : decide (x4_1 < (l0.length : Int)) = true := decide_eq_true c2
        clear c2
        have H' := Aside0.mk H
        clear H
        go_wp2
        go_loopg [3, 5] k1 (fun kq v3 v5 w' => ∃ (x3_2 : List Bool) (x5_2 : Int), v5 = .int .i64 x5_2 ∧ Aside0 (spec_ODBars.l1 kq l0 x3_2 x4_1 x5_2 = some r) ∧ Aside0 (kq ≤ k1) ∧ Aside0 (Kd.R Kd.bool 4 w' w.heap.size (fun _ => True) v3 x3_2) ∧ Aside0 (Below w.heap.size w w'))
        case atStart => exact ⟨(x3_1), (0), (by first | rfl | (simp; done) | (simp [*]; done)), H', ⟨Nat.le_refl _⟩, ⟨by (with_reducible repeat (first | apply Kd.R_alloc | apply Kd.R_drewN | apply Kd.R_drew)); exact HO_3.out⟩, ⟨by repeat (first | (with_reducible first | exact HB.out | apply below_alloc | apply pw_below_drewN | apply below_drew1) | exact HB.out)⟩⟩
        case round =>
          clear H'
          try clear c2
          try clear c2b0
          try clear p2
          obtain ⟨x3_2, x5_2, rfl, HA, HK2, HO_3, HB⟩ := hrel
          cases gk with
          | zero => exact absurd HA.out (by simp [spec_ODBars.l1])
          | succ k2 =>
            have H := HA.out
            clear HA
            simp only [spec_ODBars.l1] at H
            by_cases c3 : 0 ≤ x4_1
            · rw [if_pos c3] at H
              have c3b0 : decide (0 ≤ x4_1) = true := decide_eq_true c3
              clear c3
              by_cases c4 : x4_1 < (l0.length : Int)
              · rw [if_pos c4] at H
                have c4b0 : decide (x4_1 < (l0.length : Int)) = true := decide_eq_true c4
                clear c4
                by_cases c5 : x5_2 < (rd l0 x4_1)
                · rw [if_pos c5] at H
                  have c5b0 : decide (x5_2 < (rd l0 x4_1)) = true := decide_eq_true c5
                  clear c5
                  by_cases c6 : x3_2.length < 140737488355328
                  · rw [if_pos c6] at H
                    have LMc6 := Aside0.mk c6
                    clear c6
                    obtain ⟨y204, hy204⟩ : ∃ y_ : List Bool, y_ = (x3_2 ++ [((Int.tmod x4_1 2) == 0)]) := ⟨_, rfl⟩
                    replace H : (spec_ODBars.l1 k2 l0 y204 x4_1 (wrap64 (x5_2 + 1))) = some r := by first | (rw [hy204]; with_reducible exact H) | (have H2_ := (Option.bind_some _ _).symm.trans H; rw [hy204]; with_reducible exact H2_) | (have H2_ := (Option.bind_some _ _).symm.trans H; with_reducible exact H2_) | with_reducible exact H | (rw [hy204]; exact H) | exact H
                    have Ny204 := Aside0.mk hy204
                    clear hy204
                    have H' := Aside0.mk H
                    clear H
                    have p203 : 0 ≤ (x4_1 : Int) := of_decide_eq_true (by first | (with_reducible assumption) | assumption)
                    have q203 : x4_1 < (l0.length : Int) := of_decide_eq_true (by first | (with_reducible assumption) | assumption)
                    obtain ⟨ad203, e203, hx203_0⟩ := Kd.at_int HR0.out x4_1 p203 q203
                    cases e203
                    replace hx203_0 := (HB.out.cell (World.block_lt_of_cell? w _ hx203_0)).trans hx203_0
                    replace p203 := eq_true p203
                    replace q203 := eq_true q203
                    go_wp2_with (first | ((with_reducible refine gate_builtin (b := .append) (xs := #[.tmp 20, .tmp 24]) rfl ?_); at_builtin; refine Kd.R_append Kd.bool (w0 := w) w.heap.size rfl (.tmp 20) (.tmp 24) 27 4 (.bool false) 1 rfl Tryz.underlying27 info4 rfl (by decide) (by omega) u3 x3_2 ((Int.tmod x4_1 2) == 0) [.bool ((Int.tmod x4_1 2) == 0)] (fun _ => True) (fun _ => False) rfl rfl ?aP (fun _ hk => hk.elim) ?aF ?aO ?aB ?aS ?aL ?_; (case aP => exact rfl); (case aB => exact (by repeat (first | (with_reducible first | exact HB.out | apply below_alloc | apply pw_below_drewN | apply below_drew1) | exact HB.out))); (case aF => exact (fun _ _ => trivial)); (case aO => exact (by (with_reducible repeat (first | apply Kd.R_alloc | apply Kd.R_drewN | apply Kd.R_drew)); exact HO_3.out)); (case aS => exact (below_size (by repeat (first | (with_reducible first | exact HB.out | apply below_alloc | apply pw_below_drewN | apply below_drew1) | exact HB.out)))); (case aL => have := LMc6.out; omega); intro v205 w7 ho hb hg hat; rw [← Ny204.out] at ho; have n0_ := Aside0.mk (hb); have n1_ := Aside0.mk (ho); clear HB; clear HO_3; have HB := n0_; have HO206 := n1_; clear n0_ n1_; clear ho hb hg hat))
                    go_roundg k2
                    case measure => have := HK1.out; have := HK2.out; omega
                    case rel => exact ⟨(y204), (wrap64 (x5_2 + 1)), (by first | rfl | (simp; done) | (simp [*]; done)), H', ⟨by have := HK1.out; have := HK2.out; omega⟩, ⟨by (with_reducible repeat (first | apply Kd.R_alloc | apply Kd.R_drewN | apply Kd.R_drew)); exact HO206.out⟩, ⟨by repeat (first | (with_reducible first | exact HB.out | apply below_alloc | apply pw_below_drewN | apply below_drew1) | exact HB.out)⟩⟩
                  · rw [if_neg c6] at H
                    exact absurd H (by simp)
                · rw [if_neg c5] at H
                  have c5b0 : decide (x5_2 < (rd l0 x4_1)) = false := decide_eq_false c5
                  clear c5
                  have H' := Aside0.mk H
                  clear H
                  have p203 : 0 ≤ (x4_1 : Int) := of_decide_eq_true (by first | (with_reducible assumption) | assumption)
                  have q203 : x4_1 < (l0.length : Int) := of_decide_eq_true (by first | (with_reducible assumption) | assumption)
                  obtain ⟨ad203, e203, hx203_0⟩ := Kd.at_int HR0.out x4_1 p203 q203
                  cases e203
                  replace hx203_0 := (HB.out.cell (World.block_lt_of_cell? w _ hx203_0)).trans hx203_0
                  replace p203 := eq_true p203
                  replace q203 := eq_true q203
                  go_wp2
                  go_roundg k2
                  case measure => have := HK1.out; have := HK2.out; omega
                  case rel => exact ⟨(x3_2), (wrap64 (x4_1 + 1)), (by first | rfl | (simp; done) | (simp [*]; done)), H', ⟨by have := HK1.out; have := HK2.out; omega⟩, ⟨by (with_reducible repeat (first | apply Kd.R_alloc | apply Kd.R_drewN | apply Kd.R_drew)); exact HO_3.out⟩, ⟨by repeat (first | (with_reducible first | exact HB.out | apply below_alloc | apply pw_below_drewN | apply below_drew1) | exact HB.out)⟩⟩
              · rw [if_neg c4] at H
                exact absurd H (by simp)
            · rw [if_neg c3] at H
              exact absurd H (by simp)
      · rw [if_neg c2] at H
        have c2b0 : decide (x4_1 < (l0.length : Int)) = false := decide_eq_false c2
        clear c2
        obtain rfl := Option.some.inj H
        go_wp2
        go_ret
        exact ⟨_, by first | rfl | (simp [errW_none, errW_some] <;> rfl) | (simp [*, errW_none, errW_some] <;> rfl), by (with_reducible repeat (first | apply Kd.R_alloc | apply Kd.R_drewN | apply Kd.R_drew)); exact HO_3.out, by repeat (first | (with_reducible first | exact HB.out | apply below_alloc | apply pw_below_drewN | apply below_drew1) | exact HB.out)⟩

/-! ### spec_odElements: function 36 -/
def spec_odElements.l0 : Nat → Int → Int → Int → List Int → Int → Option (List Int)
  | 0, _, _, _, _, _ => none
  | k + 1, x0, x1, x2, x7, x8 => if x8 < x1 then (if 0 ≤ x8 then (if x8 < (x7.length : Int) then ((some (x7.set (x8 : Int).toNat 1 : List Int)).bind fun y197 => (if 0 ≤ (IntKind.u64.wrap (wrap64 ((wrap64 (x1 - 1)) - x8))) then (if (Go.bits .and .i64 (shr .i64 x0 (IntKind.u64.wrap (wrap64 ((wrap64 (x1 - 1)) - x8)))) 1) = 1 then (spec_odElements.l0 k x0 x1 x2 (y197.set (x8 : Int).toNat x2) (wrap64 (x8 + 1))) else (spec_odElements.l0 k x0 x1 x2 y197 (wrap64 (x8 + 1)))) else (none))) else (none)) else (none)) else (some x7)
def spec_odElements.f (k : Nat) (a0 : Int) (a1 : Int) (a2 : Int) : Option (List Int) := if 0 ≤ a1 then (if (a1 : Int).toNat ≤ 35184372088832 then (spec_odElements.l0 k a0 a1 a2 (List.replicate (a1 : Int).toNat 0) 0) else (none)) else (none)
theorem spec_odElements.mono_l : ∀ k, (∀ y0 y1 y2 y3 y4, LeO (spec_odElements.l0 k y0 y1 y2 y3 y4) (spec_odElements.l0 (k + 1) y0 y1 y2 y3 y4))
  | 0 => fun _ _ _ _ _ r h => by simp [spec_odElements.l0] at h
  | k + 1 => by
    have ih0 := spec_odElements.mono_l k
    · intro y0 y1 y2 y3 y4
      unfold spec_odElements.l0
      repeat' first
      | (with_reducible exact ih0 _ _ _ _ _)
      | (with_reducible exact LeO.refl _)
      | (with_reducible exact LeO.none _)
      | (with_reducible refine LeO.ite ?_ ?_)
      | (with_reducible refine LeO.bind ?_ (fun _ => ?_))
      | exact ih0 _ _ _ _ _
      | exact LeO.none _
      | refine LeO.ite ?_ ?_
      | refine LeO.bind ?_ (fun _ => ?_)
theorem spec_odElements.mono : ∀ a0 a1 a2 k, LeO (spec_odElements.f k a0 a1 a2) (spec_odElements.f (k + 1) a0 a1 a2) := by
  intro a0 a1 a2 k
  have ih0 := spec_odElements.mono_l k
  unfold spec_odElements.f
  repeat' first
      | (with_reducible exact ih0 _ _ _ _ _)
      | (with_reducible exact LeO.refl _)
      | (with_reducible exact LeO.none _)
      | (with_reducible refine LeO.ite ?_ ?_)
      | (with_reducible refine LeO.bind ?_ (fun _ => ?_))
      | exact ih0 _ _ _ _ _
      | exact LeO.none _
      | refine LeO.ite ?_ ?_
      | refine LeO.bind ?_ (fun _ => ?_)
set_option maxHeartbeats 8000000 in
set_option maxRecDepth 100000 in
theorem spec_odElements.calls (k : Nat) (a0 : Int) (a1 : Int) (a2 : Int) (r : List Int) (w : World) (h : spec_odElements.f k a0 a1 a2 = some r) :
    Calls Tryz.prog 36 #[.int .i64 a0, .int .i64 a1, .int .i64 a2] w fun e w' => ∃ v0_ : Value, e = .returned (v0_) ∧ Kd.R (Kd.int .i64) 3 w' w.heap.size (fun _ => True) v0_ r ∧ Below w.heap.size w w' := by
  have HB := Aside0.mk (Below.refl w.heap.size w)
  have H : (if 0 ≤ a1 then (if (a1 : Int).toNat ≤ 35184372088832 then (spec_odElements.l0 k a0 a1 a2 (List.replicate (a1 : Int).toNat 0) 0) else (none)) else (none)) = some r := h
  clear h
  by_cases c4 : 0 ≤ a1
  · rw [if_pos c4] at H
    have c4b0 := eq_true c4
    have c4b1 : decide (0 ≤ a1) = true := decide_eq_true c4
    clear c4
    by_cases c5 : (a1 : Int).toNat ≤ 35184372088832
    · rw [if_pos c5] at H
      have c5b0 := eq_true c5
      have c5b1 : decide ((a1 : Int).toNat ≤ 35184372088832) = true := decide_eq_true c5
      clear c5
      obtain ⟨y194, hy194⟩ : ∃ y_ : List Int, y_ = (List.replicate (a1 : Int).toNat 0) := ⟨_, rfl⟩
      replace H : (spec_odElements.l0 k a0 a1 a2 y194 0) = some r := by first | (rw [hy194]; with_reducible exact H) | (have H2_ := (Option.bind_some _ _).symm.trans H; rw [hy194]; with_reducible exact H2_) | (have H2_ := (Option.bind_some _ _).symm.trans H; with_reducible exact H2_) | with_reducible exact H | (rw [hy194]; exact H) | exact H
      have Ny194 := Aside0.mk hy194
      clear hy194
      have H' := Aside0.mk H
      clear H
      go_enter Tryz.func36, Tryz.ntmps36
      go_wp2_with (first | ((with_reducible refine gate_dst (N := 10) rfl ?_); refine Kd.R_make (Kd.int .i64) _ 3 rfl (N := 10) rfl 40 _ _ rfl a1 rfl rfl Tryz.underlying40 (.int .i64 0) 8 info3 rfl (by decide) (by omega) 0 (ok := fun _ => True) (okp := fun _ => True) rfl (fun _ hk => hk) trivial (of_decide_eq_true (by first | (with_reducible assumption) | assumption)) (Nat.le_trans (Nat.mul_le_mul_right _ (of_decide_eq_true (by first | (with_reducible assumption) | assumption) : a1.toNat ≤ 35184372088832)) (by omega)) (Below.refl _ _) (Nat.le_refl _) ?_; intro v195 w6 ho7 hb hg_ hnew_; clear hg_ hnew_; (first | rw [← Ny194.out] at ho7 | (simp only [Int.reduceToNat] at ho7; rw [← Ny194.out] at ho7)); have n0_ := Aside0.mk (Kd.R_lower ho7 (below_size (by repeat (first | (with_reducible first | exact HB.out | apply below_alloc | apply pw_below_drewN | apply below_drew1) | exact HB.out)))); have n1_ := Aside0.mk (below_step (by repeat (first | (with_reducible first | exact HB.out | apply below_alloc | apply pw_below_drewN | apply below_drew1) | exact HB.out)) hb); clear HB; have HO196 := n0_; have HB := n1_; clear n0_ n1_; clear hb ho7))
      go_loopg [8] k (fun kq v8 w' => ∃ (x7_1 : List Int) (x8_1 : Int), v8 = .int .i64 x8_1 ∧ Aside0 (spec_odElements.l0 kq a0 a1 a2 x7_1 x8_1 = some r) ∧ Aside0 (kq ≤ k) ∧ Aside0 (Kd.R (Kd.int .i64) 3 w' w.heap.size (fun _ => True) v195 x7_1) ∧ Aside0 (Below w.heap.size w w'))
      case atStart => exact ⟨(y194), (0), (by first | rfl | (simp; done) | (simp [*]; done)), H', ⟨Nat.le_refl _⟩, ⟨by (with_reducible repeat (first | apply Kd.R_alloc | apply Kd.R_drewN | apply Kd.R_drew)); exact HO196.out⟩, ⟨by repeat (first | (with_reducible first | exact HB.out | apply below_alloc | apply pw_below_drewN | apply below_drew1) | exact HB.out)⟩⟩
      case round =>
        clear H'
        try clear p2
        try clear c3
        try clear c4
        try clear c4b0
        try clear c4b1
        try clear c5
        try clear c5b0
        try clear c5b1
        obtain ⟨x7_1, x8_1, rfl, HA, HK1, HO_7, HB⟩ := hrel
        cases gk with
        | zero => exact absurd HA.out (by simp [spec_odElements.l0])
        | succ k1 =>
          have H := HA.out
          clear HA
          simp only [spec_odElements.l0] at H
          by_cases c8 : x8_1 < a1
          · rw [if_pos c8] at H
            have c8b0 : decide (x8_1 < a1) = true := decide_eq_true c8
            clear c8
            by_cases c9 : 0 ≤ x8_1
            · rw [if_pos c9] at H
              have c9b0 : decide (0 ≤ x8_1) = true := decide_eq_true c9
              clear c9
              by_cases c10 : x8_1 < (x7_1.length : Int)
              · rw [if_pos c10] at H
                have c10b0 : decide (x8_1 < (x7_1.length : Int)) = true := decide_eq_true c10
                clear c10
                obtain ⟨y197, hy197⟩ : ∃ y_ : List Int, y_ = (x7_1.set (x8_1 : Int).toNat 1) := ⟨_, rfl⟩
                replace H : (if 0 ≤ (IntKind.u64.wrap (wrap64 ((wrap64 (a1 - 1)) - x8_1))) then (if (Go.bits .and .i64 (shr .i64 a0 (IntKind.u64.wrap (wrap64 ((wrap64 (a1 - 1)) - x8_1)))) 1) = 1 then (spec_odElements.l0 k1 a0 a1 a2 (y197.set (x8_1 : Int).toNat a2) (wrap64 (x8_1 + 1))) else (spec_odElements.l0 k1 a0 a1 a2 y197 (wrap64 (x8_1 + 1)))) else (none)) = some r := by first | (rw [hy197]; with_reducible exact H) | (have H2_ := (Option.bind_some _ _).symm.trans H; rw [hy197]; with_reducible exact H2_) | (have H2_ := (Option.bind_some _ _).symm.trans H; with_reducible exact H2_) | with_reducible exact H | (rw [hy197]; exact H) | exact H
                have Ny197 := Aside0.mk hy197
                clear hy197
                obtain ⟨ji12, hji12⟩ : ∃ j_ : Int, (IntKind.u64.wrap (wrap64 ((wrap64 (a1 - 1)) - x8_1))) = j_ := ⟨_, rfl⟩
                replace H : (if 0 ≤ (ji12) then (if (Go.bits .and .i64 (shr .i64 a0 (ji12)) 1) = 1 then (spec_odElements.l0 k1 a0 a1 a2 (y197.set (x8_1 : Int).toNat a2) (wrap64 (x8_1 + 1))) else (spec_odElements.l0 k1 a0 a1 a2 y197 (wrap64 (x8_1 + 1)))) else (none)) = some r := by first | (rw [hji12] at H; exact H) | (simp only [hji12] at H ⊢; exact H)
                by_cases c13 : 0 ≤ (ji12)
                · rw [if_pos c13] at H
                  have c13b0 := eq_true c13
                  have c13b1 : decide (0 ≤ (ji12)) = true := decide_eq_true c13
                  clear c13
                  obtain ⟨ji14, hji14⟩ : ∃ j_ : Int, (shr .i64 a0 (ji12)) = j_ := ⟨_, rfl⟩
                  replace H : (if (Go.bits .and .i64 (ji14) 1) = 1 then (spec_odElements.l0 k1 a0 a1 a2 (y197.set (x8_1 : Int).toNat a2) (wrap64 (x8_1 + 1))) else (spec_odElements.l0 k1 a0 a1 a2 y197 (wrap64 (x8_1 + 1)))) = some r := by first | (rw [hji14] at H; exact H) | (simp only [hji14] at H ⊢; exact H)
                  have hji14_ : (a0 / 2 ^ min (ji12).toNat 64) = ji14 := hji14
                  have hji14z : (ji12) ≤ 64 → (a0 / 2 ^ (ji12).toNat) = ji14 := shr_small hji14
                  by_cases c15 : (Go.bits .and .i64 (ji14) 1) = 1
                  · rw [if_pos c15] at H
                    have c15b0 : ((Go.bits .and .i64 (ji14) 1) == 1) = true := beq_iff_eq.mpr c15
                    have c15b1 : ((Go.bits .and .i64 (ji14) 1) != 1) = false := bne_eq_false_iff_eq.mpr c15
                    clear c15
                    obtain ⟨y198, hy198⟩ : ∃ y_ : List Int, y_ = (y197.set (x8_1 : Int).toNat a2) := ⟨_, rfl⟩
                    replace H : (spec_odElements.l0 k1 a0 a1 a2 y198 (wrap64 (x8_1 + 1))) = some r := by first | (rw [hy198]; with_reducible exact H) | (have H2_ := (Option.bind_some _ _).symm.trans H; rw [hy198]; with_reducible exact H2_) | (have H2_ := (Option.bind_some _ _).symm.trans H; with_reducible exact H2_) | with_reducible exact H | (rw [hy198]; exact H) | exact H
                    have Ny198 := Aside0.mk hy198
                    clear hy198
                    have H' := Aside0.mk H
                    clear H
                    have p11 : 0 ≤ (x8_1 : Int) := of_decide_eq_true (by first | (with_reducible assumption) | assumption)
                    have q11 : (x8_1 : Int) < ((x7_1.length : Int) : Int) := of_decide_eq_true (by first | (with_reducible assumption) | assumption)
                    obtain ⟨go11, co11, eo11, gb11, gl11, cl11, HG11⟩ := Kd.R_form HO_7.out (by omega)
                    (first | cases eo11 | (injection eo11 with ea_ en_ ec_; (first | subst ea_ | (injection ea_ with ea_; subst ea_)); subst ec_; clear en_))
                    have GB11 := Aside0.mk gb11
                    have GG11 := Aside0.mk HG11
                    clear gb11 gl11 HG11
                    obtain ⟨hx11_0, hf11_0⟩ := Kd.R_celln 0 HO_7.out (x8_1 : Int) p11 q11
                    replace p11 := eq_true p11
                    replace q11 := eq_true q11
                    have HP17 := Kd.R_putg HO_7.out (x8_1 : Int) 1
                    go_wp2_with (first | ((with_reducible refine gate_store (t := 3) (p := 18) rfl ?_); refine store_event (t := 3) (p := 18) (v := ?vo_w18) (w1 := (wr.setCell ⟨go11, (x8_1 : Int).toNat, none⟩ (.int .i64 1))) ?hg ?ho ?hn ?hr ?_; (case ho => rfl); (case hg => rfl); (case hn => rfl); (case hr => first | (go_simp; done) | (go_simp; rfl)); intro w18 hw; have hg : wr.grownBy w18 (some go11) := (by rw [hw]; exact HP17.2); have hp_ : Kd.R (Kd.int .i64) 3 w18 w.heap.size (fun _ => True) (.slice (some ⟨go11, 0, none⟩) x7_1.length co11) y197 := (by rw [hw, Ny197.out]; exact HP17.1); clear HP17; have n0_ := Aside0.mk (hp_); have n1_ := Aside0.mk ((by rw [hw]; exact below_set (HB.out) GB11.out : Below w.heap.size w w18)); clear HO_7; clear HB; have HO_7 := n0_; have HB := n1_; clear n0_ n1_; clear hg hw hp_; have p16 : 0 ≤ (x8_1 : Int) := of_decide_eq_true (by first | (with_reducible assumption) | assumption); have q16 : (x8_1 : Int) < ((x7_1.length : Int) : Int) := of_decide_eq_true (by first | (with_reducible assumption) | assumption); obtain ⟨hx16_0, hf16_0⟩ := Kd.R_celln 0 HO_7.out (x8_1 : Int) p16 q16; replace p16 := eq_true p16; replace q16 := eq_true q16; obtain ⟨hy19_, hz19_⟩ := Kd.R_celln 0 HO_7.out (x8_1 : Int) (of_decide_eq_true (by first | (with_reducible assumption) | assumption)) (of_decide_eq_true (by first | (with_reducible assumption) | assumption)); have HP19 := Kd.R_putg HO_7.out (x8_1 : Int) a2) | ((with_reducible refine gate_store (t := 3) (p := 31) rfl ?_); refine store_event (t := 3) (p := 31) (v := ?vo_w20) (w1 := (w18.setCell ⟨go11, (x8_1 : Int).toNat, none⟩ (.int .i64 a2))) ?hg ?ho ?hn ?hr ?_; (case ho => rfl); (case hg => rfl); (case hn => rfl); (case hr => first | (go_simp; done) | (go_simp; rfl)); intro w20 hw; have hg : w18.grownBy w20 (some go11) := (by rw [hw]; exact HP19.2); have hp_ : Kd.R (Kd.int .i64) 3 w20 w.heap.size (fun _ => True) (.slice (some ⟨go11, 0, none⟩) x7_1.length co11) y198 := (by rw [hw, Ny198.out]; exact HP19.1); clear HP19; have n0_ := Aside0.mk (hp_); have n1_ := Aside0.mk ((by rw [hw]; exact below_set (HB.out) GB11.out : Below w.heap.size w w20)); clear HO_7; clear HB; have HO_7 := n0_; have HB := n1_; clear n0_ n1_; clear hg hw hp_))
                    go_roundg k1
                    case measure => have := HK1.out; omega
                    case rel => exact ⟨(y198), (wrap64 (x8_1 + 1)), (by first | rfl | (simp; done) | (simp [*]; done)), H', ⟨by have := HK1.out; omega⟩, ⟨by (with_reducible repeat (first | apply Kd.R_alloc | apply Kd.R_drewN | apply Kd.R_drew)); exact HO_7.out⟩, ⟨by repeat (first | (with_reducible first | exact HB.out | apply below_alloc | apply pw_below_drewN | apply below_drew1) | exact HB.out)⟩⟩
                  · rw [if_neg c15] at H
                    have c15b0 : ((Go.bits .and .i64 (ji14) 1) == 1) = false := beq_eq_false_iff_ne.mpr c15
                    have c15b1 : ((Go.bits .and .i64 (ji14) 1) != 1) = true := bne_iff_ne.mpr c15
                    have H' := Aside0.mk H
                    clear H
                    have p11 : 0 ≤ (x8_1 : Int) := of_decide_eq_true (by first | (with_reducible assumption) | assumption)
                    have q11 : (x8_1 : Int) < ((x7_1.length : Int) : Int) := of_decide_eq_true (by first | (with_reducible assumption) | assumption)
                    obtain ⟨go11, co11, eo11, gb11, gl11, cl11, HG11⟩ := Kd.R_form HO_7.out (by omega)
                    (first | cases eo11 | (injection eo11 with ea_ en_ ec_; (first | subst ea_ | (injection ea_ with ea_; subst ea_)); subst ec_; clear en_))
                    have GB11 := Aside0.mk gb11
                    have GG11 := Aside0.mk HG11
                    clear gb11 gl11 HG11
                    obtain ⟨hx11_0, hf11_0⟩ := Kd.R_celln 0 HO_7.out (x8_1 : Int) p11 q11
                    replace p11 := eq_true p11
                    replace q11 := eq_true q11
                    have HP21 := Kd.R_putg HO_7.out (x8_1 : Int) 1
                    go_wp2_with (first | ((with_reducible refine gate_store (t := 3) (p := 18) rfl ?_); refine store_event (t := 3) (p := 18) (v := ?vo_w22) (w1 := (wr.setCell ⟨go11, (x8_1 : Int).toNat, none⟩ (.int .i64 1))) ?hg ?ho ?hn ?hr ?_; (case ho => rfl); (case hg => rfl); (case hn => rfl); (case hr => first | (go_simp; done) | (go_simp; rfl)); intro w22 hw; have hg : wr.grownBy w22 (some go11) := (by rw [hw]; exact HP21.2); have hp_ : Kd.R (Kd.int .i64) 3 w22 w.heap.size (fun _ => True) (.slice (some ⟨go11, 0, none⟩) x7_1.length co11) y197 := (by rw [hw, Ny197.out]; exact HP21.1); clear HP21; have n0_ := Aside0.mk (hp_); have n1_ := Aside0.mk ((by rw [hw]; exact below_set (HB.out) GB11.out : Below w.heap.size w w22)); clear HO_7; clear HB; have HO_7 := n0_; have HB := n1_; clear n0_ n1_; clear hg hw hp_))
                    go_roundg k1
                    case measure => have := HK1.out; omega
                    case rel => exact ⟨(y197), (wrap64 (x8_1 + 1)), (by first | rfl | (simp; done) | (simp [*]; done)), H', ⟨by have := HK1.out; omega⟩, ⟨by (with_reducible repeat (first | apply Kd.R_alloc | apply Kd.R_drewN | apply Kd.R_drew)); exact HO_7.out⟩, ⟨by repeat (first | (with_reducible first | exact HB.out | apply below_alloc | apply pw_below_drewN | apply below_drew1) | exact HB.out)⟩⟩
                · rw [if_neg c13] at H
                  exact absurd H (by simp)
              · rw [if_neg c10] at H
                exact absurd H (by simp)
            · rw [if_neg c9] at H
              exact absurd H (by simp)
          · rw [if_neg c8] at H
            have c8b0 : decide (x8_1 < a1) = false := decide_eq_false c8
            clear c8
            obtain rfl := Option.some.inj H
            go_wp2
            go_ret
            exact ⟨_, by first | rfl | (simp [errW_none, errW_some] <;> rfl) | (simp [*, errW_none, errW_some] <;> rfl), by (with_reducible repeat (first | apply Kd.R_alloc | apply Kd.R_drewN | apply Kd.R_drew)); exact HO_7.out, by repeat (first | (with_reducible first | exact HB.out | apply below_alloc | apply pw_below_drewN | apply below_drew1) | exact HB.out)⟩
    · rw [if_neg c5] at H
      exact absurd H (by simp)
  · rw [if_neg c4] at H
    exact absurd H (by simp)

/-! ### spec_odItfWide: function 39 -/
def spec_odItfWide.f (a0 : Int) : Option (Int) := (some (([6, 17, 9, 24, 5, 20, 12, 3, 18, 10] : List Int) : List Int)).bind fun y233 => (if 0 ≤ a0 then (if a0 < (y233.length : Int) then (some (rd y233 a0)) else (none)) else (none))
set_option maxHeartbeats 8000000 in
set_option maxRecDepth 100000 in
theorem spec_odItfWide.calls (a0 : Int) (r : Int) (w : World) (h : spec_odItfWide.f a0 = some r) :
    Calls Tryz.prog 39 #[.int .i64 a0] w fun e w' => e = .returned (.int .i64 r) ∧ Below w.heap.size w w' := by
  have HB := Aside0.mk (Below.refl w.heap.size w)
  have H : ((some (([6, 17, 9, 24, 5, 20, 12, 3, 18, 10] : List Int) : List Int)).bind fun y233 => (if 0 ≤ a0 then (if a0 < (y233.length : Int) then (some (rd y233 a0)) else (none)) else (none))) = some r := h
  clear h
  obtain ⟨y233, hy233⟩ : ∃ y_ : List Int, y_ = (([6, 17, 9, 24, 5, 20, 12, 3, 18, 10] : List Int)) := ⟨_, rfl⟩
  replace H : (if 0 ≤ a0 then (if a0 < (y233.length : Int) then (some (rd y233 a0)) else (none)) else (none)) = some r := by first | (rw [hy233]; with_reducible exact H) | (have H2_ := (Option.bind_some _ _).symm.trans H; rw [hy233]; with_reducible exact H2_) | (have H2_ := (Option.bind_some _ _).symm.trans H; with_reducible exact H2_) | with_reducible exact H | (rw [hy233]; exact H) | exact H
  have Ny233 := Aside0.mk hy233
  clear hy233
  by_cases c2 : 0 ≤ a0
  · rw [if_pos c2] at H
    have c2b0 : decide (0 ≤ a0) = true := decide_eq_true c2
    clear c2
    by_cases c3 : a0 < (y233.length : Int)
    · rw [if_pos c3] at H
      have c3b0 : decide (a0 < (y233.length : Int)) = true := decide_eq_true c3
      clear c3
      obtain rfl := Option.some.inj H
      go_enter Tryz.func39, Tryz.ntmps39
      go_wp2_with (first | ((with_reducible refine gate_dst (N := 3) rfl ?_); refine Kd.R_lit (Kd.int .i64) _ 3 ?hg (N := 3) ?hd (xs := ([6, 17, 9, 24, 5, 20, 12, 3, 18, 10] : List Int)) (inner := [.int .i64 6, .int .i64 17, .int .i64 9, .int .i64 24, .int .i64 5, .int .i64 20, .int .i64 12, .int .i64 3, .int .i64 18, .int .i64 10]) (ok := fun _ => True) (okp := fun _ => True) ?hr ?hp (fun _ hk => hk) trivial (Below.refl _ _) (Nat.le_refl _) (by simp) ?_; (case hd => rfl); (case hg => rfl); (case hr => first | (go_simp; done) | (go_simp; rfl)); (case hp => exact (Reps.one (show Kd.M (Kd.int .i64) _ _ _ 6 [.int .i64 6] from rfl) (Reps.one (show Kd.M (Kd.int .i64) _ _ _ 17 [.int .i64 17] from rfl) (Reps.one (show Kd.M (Kd.int .i64) _ _ _ 9 [.int .i64 9] from rfl) (Reps.one (show Kd.M (Kd.int .i64) _ _ _ 24 [.int .i64 24] from rfl) (Reps.one (show Kd.M (Kd.int .i64) _ _ _ 5 [.int .i64 5] from rfl) (Reps.one (show Kd.M (Kd.int .i64) _ _ _ 20 [.int .i64 20] from rfl) (Reps.one (show Kd.M (Kd.int .i64) _ _ _ 12 [.int .i64 12] from rfl) (Reps.one (show Kd.M (Kd.int .i64) _ _ _ 3 [.int .i64 3] from rfl) (Reps.one (show Kd.M (Kd.int .i64) _ _ _ 18 [.int .i64 18] from rfl) (Reps.one (show Kd.M (Kd.int .i64) _ _ _ 10 [.int .i64 10] from rfl) (Reps.none _ _)))))))))))); intro v234 w4 ho5 hb hg_ hnew_; clear hg_ hnew_; (first | rw [← Ny233.out] at ho5 | (simp only [Int.reduceToNat] at ho5; rw [← Ny233.out] at ho5)); have n0_ := Aside0.mk (Kd.R_lower ho5 (below_size (by repeat (first | (with_reducible first | exact HB.out | apply below_alloc | apply pw_below_drewN | apply below_drew1) | exact HB.out)))); have n1_ := Aside0.mk (below_step (by repeat (first | (with_reducible first | exact HB.out | apply below_alloc | apply pw_below_drewN | apply below_drew1) | exact HB.out)) hb); clear HB; have HO235 := n0_; have HB := n1_; clear n0_ n1_; clear hb ho5; obtain ⟨Ao6, co6, eo6⟩ := Kd.R_slice HO235.out; subst eo6; have p236 : 0 ≤ (a0 : Int) := of_decide_eq_true (by first | (with_reducible assumption) | assumption); have q236 : a0 < (y233.length : Int) := of_decide_eq_true (by first | (with_reducible assumption) | assumption); obtain ⟨ad236, e236, hx236_0⟩ := Kd.at_int (Kd.R_reads' HO235.out).2.2 a0 p236 q236; cases e236; replace p236 := eq_true p236; replace q236 := eq_true q236))
      go_ret
      exact ⟨by first | rfl | (simp [errW_none, errW_some] <;> rfl) | (simp [*, errW_none, errW_some] <;> rfl), by repeat (first | (with_reducible first | exact HB.out | apply below_alloc | apply pw_below_drewN | apply below_drew1) | exact HB.out)⟩
    · rw [if_neg c3] at H
      exact absurd H (by simp)
  · rw [if_neg c2] at H
    exact absurd H (by simp)
end Go.Proofs.YthkddnmomjcdaaaGreat.F
