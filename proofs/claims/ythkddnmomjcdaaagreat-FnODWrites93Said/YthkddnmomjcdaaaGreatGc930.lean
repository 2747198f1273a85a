import Derived.Test.YthkddnmomjcdaaaGreatF0
namespace Go.Proofs.YthkddnmomjcdaaaGreat.F
open Go.RowKit Go.Proofs.YthkddnmomjcdaaaGreatW.PrintWords Go.Proofs.YthkddnmomjcdaaaGreatW.PrintLast Go.Proofs.YthkddnmomjcdaaaGreatW.PrintMore
attribute [local go_sem] max2_int min2_int max_two min_two max_three min_three max_four min_four   -- for this text's walks alone
set_option linter.unusedVariables false
set_option linter.unusedSimpArgs false

/-! ### gozxing_BarcodeFormats_Contains: function 97 -/
def gozxing_BarcodeFormats_Contains.l0 : Nat → Int → List Int → Int → Int → Option (Bool)
  | 0, _, _, _, _ => none
  | k + 1, x1, x7, x8, x9 => if x9 < x8 then (if 0 ≤ x9 then (if x9 < (x7.length : Int) then (if (rd x7 x9) = x1 then (some true) else (gozxing_BarcodeFormats_Contains.l0 k x1 x7 x8 (wrap64 (x9 + 1)))) else (none)) else (none)) else (some false)
def gozxing_BarcodeFormats_Contains.f (k : Nat) (l0 : List Int) (a1 : Int) : Option (Bool) := gozxing_BarcodeFormats_Contains.l0 k a1 l0 (l0.length : Int) 0
theorem gozxing_BarcodeFormats_Contains.mono_l : ∀ k, (∀ y0 y1 y2 y3, LeO (gozxing_BarcodeFormats_Contains.l0 k y0 y1 y2 y3) (gozxing_BarcodeFormats_Contains.l0 (k + 1) y0 y1 y2 y3))
  | 0 => fun _ _ _ _ r h => by simp [gozxing_BarcodeFormats_Contains.l0] at h
  | k + 1 => by
    have ih0 := gozxing_BarcodeFormats_Contains.mono_l k
    · intro y0 y1 y2 y3
      unfold gozxing_BarcodeFormats_Contains.l0
      repeat' first
      | (with_reducible exact ih0 _ _ _ _)
      | (with_reducible exact LeO.refl _)
      | (with_reducible exact LeO.none _)
      | (with_reducible refine LeO.ite ?_ ?_)
      | (with_reducible refine LeO.bind ?_ (fun _ => ?_))
      | exact ih0 _ _ _ _
      | exact LeO.none _
      | refine LeO.ite ?_ ?_
      | refine LeO.bind ?_ (fun _ => ?_)
theorem gozxing_BarcodeFormats_Contains.mono : ∀ a0 a1 k, LeO (gozxing_BarcodeFormats_Contains.f k a0 a1) (gozxing_BarcodeFormats_Contains.f (k + 1) a0 a1) := by
  intro a0 a1 k
  have ih0 := gozxing_BarcodeFormats_Contains.mono_l k
  unfold gozxing_BarcodeFormats_Contains.f
  repeat' first
      | (with_reducible exact ih0 _ _ _ _)
      | (with_reducible exact LeO.refl _)
      | (with_reducible exact LeO.none _)
      | (with_reducible refine LeO.ite ?_ ?_)
      | (with_reducible refine LeO.bind ?_ (fun _ => ?_))
      | exact ih0 _ _ _ _
      | exact LeO.none _
      | refine LeO.ite ?_ ?_
      | refine LeO.bind ?_ (fun _ => ?_)
set_option maxHeartbeats 8000000 in
set_option maxRecDepth 100000 in
theorem gozxing_BarcodeFormats_Contains.calls (k : Nat) (A0 : Option Addr) (c0 : Nat) (l0 : List Int) (a1 : Int) (r : Bool) (w : World) (hr0 : Kd.C (Kd.int .i64) w A0 l0.length l0) (hc0 : l0.length ≤ c0) (h : gozxing_BarcodeFormats_Contains.f k l0 a1 = some r) :
    Calls Tryz.prog 97 #[.slice A0 l0.length c0, .int .i64 a1] w fun e w' => e = .returned (.bool r) ∧ Drawn0 w w' := by
  have HR0 := Aside0.mk hr0
  have HC0 := Aside0.mk hc0
  clear hr0 hc0
  have H : (gozxing_BarcodeFormats_Contains.l0 k a1 l0 (l0.length : Int) 0) = some r := h
  clear h
  have H' := Aside0.mk H
  clear H
  go_enter Tryz.func97, Tryz.ntmps97
  go_wp2
  go_loopg [9] k (fun kq v9 w' => ∃ (x9_1 : Int), v9 = .int .i64 x9_1 ∧ Aside0 (gozxing_BarcodeFormats_Contains.l0 kq a1 l0 (l0.length : Int) x9_1 = some r) ∧ Aside0 (kq ≤ k) ∧ Drawn0 w w')
  case atStart => exact ⟨(0), (by first | rfl | (simp; done) | (simp [*]; done)), H', ⟨Nat.le_refl _⟩, by repeat (first | exact Drawn0.refl _ | apply Drawn0.step)⟩
  case round =>
    clear H'
    try clear p2
    obtain ⟨x9_1, rfl, HA, HK1, ⟨m1, rfl⟩⟩ := hrel
    cases gk with
    | zero => exact absurd HA.out (by simp [gozxing_BarcodeFormats_Contains.l0])
    | succ k1 =>
      have H := HA.out
      clear HA
      simp only [gozxing_BarcodeFormats_Contains.l0] at H
      by_cases c3 : x9_1 < (l0.length : Int)
      · rw [if_pos c3] at H
        have c3b0 : decide (x9_1 < (l0.length : Int)) = true := decide_eq_true c3
        clear c3
        by_cases c4 : 0 ≤ x9_1
        · rw [if_pos c4] at H
          have c4b0 : decide (0 ≤ x9_1) = true := decide_eq_true c4
          clear c4
          by_cases c5 : x9_1 < (l0.length : Int)
          · rw [if_pos c5] at H
            have c5b0 : decide (x9_1 < (l0.length : Int)) = true := decide_eq_true c5
            clear c5
            by_cases c6 : (rd l0 x9_1) = a1
            · rw [if_pos c6] at H
              have c6b0 : ((rd l0 x9_1) == a1) = true := beq_iff_eq.mpr c6
              have c6b1 : ((rd l0 x9_1) != a1) = false := bne_eq_false_iff_eq.mpr c6
              clear c6
              obtain rfl := Option.some.inj H
              have p943 : 0 ≤ (x9_1 : Int) := of_decide_eq_true (by first | (with_reducible assumption) | assumption)
              have q943 : x9_1 < (l0.length : Int) := of_decide_eq_true (by first | (with_reducible assumption) | assumption)
              obtain ⟨ad943, e943, hx943_0⟩ := Kd.at_int HR0.out x9_1 p943 q943
              cases e943
              replace p943 := eq_true p943
              replace q943 := eq_true q943
              go_wp2
              go_ret
              exact ⟨by first | rfl | (simp; done) | (simp [*]; done), by repeat (first | exact Drawn0.refl _ | apply Drawn0.step)⟩
            · rw [if_neg c6] at H
              have c6b0 : ((rd l0 x9_1) == a1) = false := beq_eq_false_iff_ne.mpr c6
              have c6b1 : ((rd l0 x9_1) != a1) = true := bne_iff_ne.mpr c6
              have H' := Aside0.mk H
              clear H
              have p943 : 0 ≤ (x9_1 : Int) := of_decide_eq_true (by first | (with_reducible assumption) | assumption)
              have q943 : x9_1 < (l0.length : Int) := of_decide_eq_true (by first | (with_reducible assumption) | assumption)
              obtain ⟨ad943, e943, hx943_0⟩ := Kd.at_int HR0.out x9_1 p943 q943
              cases e943
              replace p943 := eq_true p943
              replace q943 := eq_true q943
              go_wp2
              go_roundg k1
              case measure => have := HK1.out; omega
              case rel => exact ⟨(wrap64 (x9_1 + 1)), (by first | rfl | (simp; done) | (simp [*]; done)), H', ⟨by have := HK1.out; omega⟩, by repeat (first | exact Drawn0.refl _ | apply Drawn0.step)⟩
          · rw [if_neg c5] at H
            exact absurd H (by simp)
        · rw [if_neg c4] at H
          exact absurd H (by simp)
      · rw [if_neg c3] at H
        have c3b0 : decide (x9_1 < (l0.length : Int)) = false := decide_eq_false c3
        clear c3
        obtain rfl := Option.some.inj H
        go_wp2
        go_ret
        exact ⟨by first | rfl | (simp; done) | (simp [*]; done), by repeat (first | exact Drawn0.refl _ | apply Drawn0.step)⟩

/-- THE ONE PURE STATEMENT of gozxing_BarcodeFormats_Contains: yours. -/
def gozxing_BarcodeFormats_Contains.Pure : Prop := ∀ (l0 : List Int) (a1 : Int), l0.length ≤ maxLen → l0.length * 8 ≤ 140737488351232 → (∀ x ∈ l0, (Lit.int .i64 x).wf = true) → (Lit.int .i64 a1).wf = true → ∃ k, gozxing_BarcodeFormats_Contains.f k l0 a1 = some true
theorem gozxing_BarcodeFormats_Contains.walk (P : gozxing_BarcodeFormats_Contains.Pure) (a0 : Option Addr) (len0 cap0 : Nat) (z0 : List Int) (a1 : Int) (w : World) (w0 : (a0 = none ∧ len0 = 0 ∧ cap0 = 0 ∧ z0 = []) ∨ ∃ x, a0 = some x ∧ len0 ≤ cap0 ∧ cap0 ≤ maxLen ∧ z0.length = cap0 ∧ (∀ i, i < z0.length → w.cell? (x.add i) = some (.int .i64 (z0.getD i 0))) ∧ ∀ n ∈ z0, (Lit.int .i64 n).wf = true) (y0 : len0 * 8 ≤ 140737488351232) (w1 : (Lit.int .i64 a1).wf = true) :
    Calls Tryz.prog 97 #[.slice a0 len0 cap0, .int .i64 a1] w fun e w' => e = .returned (.bool true) ∧ Below w.heap.size w w' := by
  obtain ⟨l0, rfl, hr0, hm0, hw0, hc0⟩ := ReadsInt.ofRowC w0
  obtain ⟨k, h⟩ := P l0 a1 hm0 y0 hw0 w1
  refine (gozxing_BarcodeFormats_Contains.calls k _ _ l0 a1 true w (Kd.C_of_reads (d := (0 : Int)) (h1 := fun _ => rfl) hr0) hc0 h).mono ?_
  rintro e w' ⟨rfl, hd⟩
  exact ⟨rfl, hd.below⟩

/-! ### spec_BISameBits: function 16 -/
def spec_BISameBits.l0 : Nat → List Bool → List Bool → Int → Option (Bool)
  | 0, _, _, _ => none
  | k + 1, x0, x1, x5 => if x5 < (x0.length : Int) then (if 0 ≤ x5 then (if x5 < (x1.length : Int) then (if ((rdOf false x0 x5) != (rdOf false x1 x5)) = true then (some false) else (spec_BISameBits.l0 k x0 x1 (wrap64 (x5 + 1)))) else (none)) else (none)) else (some true)
def spec_BISameBits.f (k : Nat) (l0 : List Bool) (l1 : List Bool) : Option (Bool) := if (l0.length : Int) = (l1.length : Int) then (spec_BISameBits.l0 k l0 l1 0) else (some false)
theorem spec_BISameBits.mono_l : ∀ k, (∀ y0 y1 y2, LeO (spec_BISameBits.l0 k y0 y1 y2) (spec_BISameBits.l0 (k + 1) y0 y1 y2))
  | 0 => fun _ _ _ r h => by simp [spec_BISameBits.l0] at h
  | k + 1 => by
    have ih0 := spec_BISameBits.mono_l k
    · intro y0 y1 y2
      unfold spec_BISameBits.l0
      repeat' first
      | (with_reducible exact ih0 _ _ _)
      | (with_reducible exact LeO.refl _)
      | (with_reducible exact LeO.none _)
      | (with_reducible refine LeO.ite ?_ ?_)
      | (with_reducible refine LeO.bind ?_ (fun _ => ?_))
      | exact ih0 _ _ _
      | exact LeO.none _
      | refine LeO.ite ?_ ?_
      | refine LeO.bind ?_ (fun _ => ?_)
theorem spec_BISameBits.mono : ∀ a0 a1 k, LeO (spec_BISameBits.f k a0 a1) (spec_BISameBits.f (k + 1) a0 a1) := by
  intro a0 a1 k
  have ih0 := spec_BISameBits.mono_l k
  unfold spec_BISameBits.f
  repeat' first
      | (with_reducible exact ih0 _ _ _)
      | (with_reducible exact LeO.refl _)
      | (with_reducible exact LeO.none _)
      | (with_reducible refine LeO.ite ?_ ?_)
      | (with_reducible refine LeO.bind ?_ (fun _ => ?_))
      | exact ih0 _ _ _
      | exact LeO.none _
      | refine LeO.ite ?_ ?_
      | refine LeO.bind ?_ (fun _ => ?_)
set_option maxHeartbeats 8000000 in
set_option maxRecDepth 100000 in
theorem spec_BISameBits.calls (k : Nat) (A0 : Option Addr) (c0 : Nat) (l0 : List Bool) (A1 : Option Addr) (c1 : Nat) (l1 : List Bool) (r : Bool) (w : World) (hr0 : Kd.C Kd.bool w A0 l0.length l0) (hc0 : l0.length ≤ c0) (hr1 : Kd.C Kd.bool w A1 l1.length l1) (hc1 : l1.length ≤ c1) (h : spec_BISameBits.f k l0 l1 = some r) :
    Calls Tryz.prog 16 #[.slice A0 l0.length c0, .slice A1 l1.length c1] w fun e w' => e = .returned (.bool r) ∧ Drawn0 w w' := by
  have HR0 := Aside0.mk hr0
  have HC0 := Aside0.mk hc0
  clear hr0 hc0
  have HR1 := Aside0.mk hr1
  have HC1 := Aside0.mk hc1
  clear hr1 hc1
  have H : (if (l0.length : Int) = (l1.length : Int) then (spec_BISameBits.l0 k l0 l1 0) else (some false)) = some r := h
  clear h
  by_cases c3 : (l0.length : Int) = (l1.length : Int)
  · rw [if_pos c3] at H
    have c3b0 : ((l0.length : Int) == (l1.length : Int)) = true := beq_iff_eq.mpr c3
    have c3b1 : ((l0.length : Int) != (l1.length : Int)) = false := bne_eq_false_iff_eq.mpr c3
    have c3b2 : (l0.length == l1.length) = true := by first | simpa using c3 | (simp at c3 ⊢; omega)
    clear c3
    have H' := Aside0.mk H
    clear H
    go_enter Tryz.func16, Tryz.ntmps16
    go_wp2
    repeat (go_quiet (fail); try go_wp2)
    go_loopg [5] k (fun kq v5 w' => ∃ (x5_1 : Int), v5 = .int .i64 x5_1 ∧ Aside0 (spec_BISameBits.l0 kq l0 l1 x5_1 = some r) ∧ Aside0 (kq ≤ k) ∧ Drawn0 w w')
    case atStart => exact ⟨(0), (by first | rfl | (simp; done) | (simp [*]; done)), H', ⟨Nat.le_refl _⟩, by repeat (first | exact Drawn0.refl _ | apply Drawn0.step)⟩
    case round =>
      clear H'
      try clear c1
      try clear p2
      try clear c3
      try clear c3b0
      try clear c3b1
      try clear c3b2
      obtain ⟨x5_1, rfl, HA, HK1, ⟨m1, rfl⟩⟩ := hrel
      cases gk with
      | zero => exact absurd HA.out (by simp [spec_BISameBits.l0])
      | succ k1 =>
        have H := HA.out
        clear HA
        simp only [spec_BISameBits.l0] at H
        by_cases c4 : x5_1 < (l0.length : Int)
        · rw [if_pos c4] at H
          have c4b0 : decide (x5_1 < (l0.length : Int)) = true := decide_eq_true c4
          clear c4
          by_cases c5 : 0 ≤ x5_1
          · rw [if_pos c5] at H
            have c5b0 : decide (0 ≤ x5_1) = true := decide_eq_true c5
            clear c5
            by_cases c6 : x5_1 < (l1.length : Int)
            · rw [if_pos c6] at H
              have c6b0 : decide (x5_1 < (l1.length : Int)) = true := decide_eq_true c6
              clear c6
              by_cases c7 : ((rdOf false l0 x5_1) != (rdOf false l1 x5_1)) = true
              · rw [if_pos c7] at H
                have c7b0 : ((rdOf false l0 x5_1) != (rdOf false l1 x5_1)) = true := c7
                (try (have c7b1 : decide ((rdOf false l0 x5_1) = (rdOf false l1 x5_1)) = false := by simpa using c7))
                (try (have c7b2 : ((rdOf false l0 x5_1) == (rdOf false l1 x5_1)) = false := by simpa using c7))
                (try (have c7b3 : ¬ ((rdOf false l0 x5_1) = (rdOf false l1 x5_1)) := by simpa using c7))
                clear c7
                obtain rfl := Option.some.inj H
                have p121 : 0 ≤ (x5_1 : Int) := of_decide_eq_true (by first | (with_reducible assumption) | assumption)
                have q121 : x5_1 < (l0.length : Int) := of_decide_eq_true (by first | (with_reducible assumption) | assumption)
                obtain ⟨ad121, e121, hx121_0⟩ := Kd.at_bool HR0.out x5_1 p121 q121
                cases e121
                replace p121 := eq_true p121
                replace q121 := eq_true q121
                have p122 : 0 ≤ (x5_1 : Int) := of_decide_eq_true (by first | (with_reducible assumption) | assumption)
                have q122 : x5_1 < (l1.length : Int) := of_decide_eq_true (by first | (with_reducible assumption) | assumption)
                obtain ⟨ad122, e122, hx122_0⟩ := Kd.at_bool HR1.out x5_1 p122 q122
                cases e122
                replace p122 := eq_true p122
                replace q122 := eq_true q122
                go_wp2
                repeat (go_quiet (fail); try go_wp2)
                go_ret
                exact ⟨by first | rfl | (simp; done) | (simp [*]; done), by repeat (first | exact Drawn0.refl _ | apply Drawn0.step)⟩
              · rw [if_neg c7] at H
                have c7b0 : ((rdOf false l0 x5_1) != (rdOf false l1 x5_1)) = false := by simpa using c7
                (try (have c7b1 : decide ((rdOf false l0 x5_1) = (rdOf false l1 x5_1)) = true := by simpa using c7))
                (try (have c7b2 : ((rdOf false l0 x5_1) == (rdOf false l1 x5_1)) = true := by simpa using c7))
                clear c7
                have H' := Aside0.mk H
                clear H
                have p121 : 0 ≤ (x5_1 : Int) := of_decide_eq_true (by first | (with_reducible assumption) | assumption)
                have q121 : x5_1 < (l0.length : Int) := of_decide_eq_true (by first | (with_reducible assumption) | assumption)
                obtain ⟨ad121, e121, hx121_0⟩ := Kd.at_bool HR0.out x5_1 p121 q121
                cases e121
                replace p121 := eq_true p121
                replace q121 := eq_true q121
                have p122 : 0 ≤ (x5_1 : Int) := of_decide_eq_true (by first | (with_reducible assumption) | assumption)
                have q122 : x5_1 < (l1.length : Int) := of_decide_eq_true (by first | (with_reducible assumption) | assumption)
                obtain ⟨ad122, e122, hx122_0⟩ := Kd.at_bool HR1.out x5_1 p122 q122
                cases e122
                replace p122 := eq_true p122
                replace q122 := eq_true q122
                go_wp2
                repeat (go_quiet (fail); try go_wp2)
                go_roundg k1
                case measure => have := HK1.out; omega
                case rel => exact ⟨(wrap64 (x5_1 + 1)), (by first | rfl | (simp; done) | (simp [*]; done)), H', ⟨by have := HK1.out; omega⟩, by repeat (first | exact Drawn0.refl _ | apply Drawn0.step)⟩
            · rw [if_neg c6] at H
              exact absurd H (by simp)
          · rw [if_neg c5] at H
            exact absurd H (by simp)
        · rw [if_neg c4] at H
          have c4b0 : decide (x5_1 < (l0.length : Int)) = false := decide_eq_false c4
          clear c4
          obtain rfl := Option.some.inj H
          go_wp2
          repeat (go_quiet (fail); try go_wp2)
          go_ret
          exact ⟨by first | rfl | (simp; done) | (simp [*]; done), by repeat (first | exact Drawn0.refl _ | apply Drawn0.step)⟩
  · rw [if_neg c3] at H
    have c3b0 : ((l0.length : Int) == (l1.length : Int)) = false := beq_eq_false_iff_ne.mpr c3
    have c3b1 : ((l0.length : Int) != (l1.length : Int)) = true := bne_iff_ne.mpr c3
    have c3b2 : (l0.length == l1.length) = false := by first | simpa using c3 | (simp at c3 ⊢; omega)
    obtain rfl := Option.some.inj H
    go_enter Tryz.func16, Tryz.ntmps16
    go_wp2
    repeat (go_quiet (fail); try go_wp2)
    go_ret
    exact ⟨by first | rfl | (simp; done) | (simp [*]; done), by repeat (first | exact Drawn0.refl _ | apply Drawn0.step)⟩

/-! ### spec_ODRow: function 17 -/
mutual
def spec_ODRow.l0 : Nat → List Bool → List Bool → Int → Int → Int → Option (List Bool)
  | 0, _, _, _, _, _ => none
  | k + 1, x0, x9, x10, x11, x12 => if x12 < (x0.length : Int) then (spec_ODRow.l1 k x0 x9 x10 x11 x12 0) else (some x9)
def spec_ODRow.l1 : Nat → List Bool → List Bool → Int → Int → Int → Int → Option (List Bool)
  | 0, _, _, _, _, _, _ => none
  | k + 1, x0, x9, x10, x11, x12, x13 => if x13 < x10 then (if 0 ≤ x12 then (if x12 < (x0.length : Int) then (if 0 ≤ (wrap64 ((wrap64 (x11 + (wrap64 (x12 * x10)))) + x13)) then (if (wrap64 ((wrap64 (x11 + (wrap64 (x12 * x10)))) + x13)) < (x9.length : Int) then (spec_ODRow.l1 k x0 (x9.set ((wrap64 ((wrap64 (x11 + (wrap64 (x12 * x10)))) + x13)) : Int).toNat (rdOf false x0 x12)) x10 x11 x12 (wrap64 (x13 + 1))) else (none)) else (none)) else (none)) else (none)) else (spec_ODRow.l0 k x0 x9 x10 x11 (wrap64 (x12 + 1)))
end
def spec_ODRow.f (k : Nat) (l0 : List Bool) (a1 : Int) (a2 : Int) : Option (List Bool) := if 0 ≤ (mx a1 (wrap64 ((l0.length : Int) + a2))) then (if (mx a1 (wrap64 ((l0.length : Int) + a2)) : Int).toNat ≤ 281474976710656 then (if (wrap64 ((l0.length : Int) + a2)) = 0 then (none) else (spec_ODRow.l0 k l0 (List.replicate (mx a1 (wrap64 ((l0.length : Int) + a2)) : Int).toNat false) (wrap64 (Int.tdiv (mx a1 (wrap64 ((l0.length : Int) + a2))) (wrap64 ((l0.length : Int) + a2)))) (wrap64 (Int.tdiv (wrap64 ((mx a1 (wrap64 ((l0.length : Int) + a2))) - (wrap64 ((l0.length : Int) * (wrap64 (Int.tdiv (mx a1 (wrap64 ((l0.length : Int) + a2))) (wrap64 ((l0.length : Int) + a2)))))))) 2)) 0)) else (none)) else (none)
theorem spec_ODRow.mono_l : ∀ k, (∀ y0 y1 y2 y3 y4, LeO (spec_ODRow.l0 k y0 y1 y2 y3 y4) (spec_ODRow.l0 (k + 1) y0 y1 y2 y3 y4)) ∧ (∀ y0 y1 y2 y3 y4 y5, LeO (spec_ODRow.l1 k y0 y1 y2 y3 y4 y5) (spec_ODRow.l1 (k + 1) y0 y1 y2 y3 y4 y5))
  | 0 => ⟨fun _ _ _ _ _ r h => by simp [spec_ODRow.l0] at h, fun _ _ _ _ _ _ r h => by simp [spec_ODRow.l1] at h⟩
  | k + 1 => by
    obtain ⟨ih0, ih1⟩ := spec_ODRow.mono_l k
    refine ⟨?_, ?_⟩
    · intro y0 y1 y2 y3 y4
      unfold spec_ODRow.l0
      repeat' first
      | (with_reducible exact ih0 _ _ _ _ _)
      | (with_reducible exact ih1 _ _ _ _ _ _)
      | (with_reducible exact LeO.refl _)
      | (with_reducible exact LeO.none _)
      | (with_reducible refine LeO.ite ?_ ?_)
      | (with_reducible refine LeO.bind ?_ (fun _ => ?_))
      | exact ih0 _ _ _ _ _
      | exact ih1 _ _ _ _ _ _
      | exact LeO.none _
      | refine LeO.ite ?_ ?_
      | refine LeO.bind ?_ (fun _ => ?_)
    · intro y0 y1 y2 y3 y4 y5
      unfold spec_ODRow.l1
      repeat' first
      | (with_reducible exact ih0 _ _ _ _ _)
      | (with_reducible exact ih1 _ _ _ _ _ _)
      | (with_reducible exact LeO.refl _)
      | (with_reducible exact LeO.none _)
      | (with_reducible refine LeO.ite ?_ ?_)
      | (with_reducible refine LeO.bind ?_ (fun _ => ?_))
      | exact ih0 _ _ _ _ _
      | exact ih1 _ _ _ _ _ _
      | exact LeO.none _
      | refine LeO.ite ?_ ?_
      | refine LeO.bind ?_ (fun _ => ?_)
theorem spec_ODRow.mono : ∀ a0 a1 a2 k, LeO (spec_ODRow.f k a0 a1 a2) (spec_ODRow.f (k + 1) a0 a1 a2) := by
  intro a0 a1 a2 k
  obtain ⟨ih0, ih1⟩ := spec_ODRow.mono_l k
  unfold spec_ODRow.f
  repeat' first
      | (with_reducible exact ih0 _ _ _ _ _)
      | (with_reducible exact ih1 _ _ _ _ _ _)
      | (with_reducible exact LeO.refl _)
      | (with_reducible exact LeO.none _)
      | (with_reducible refine LeO.ite ?_ ?_)
      | (with_reducible refine LeO.bind ?_ (fun _ => ?_))
      | exact ih0 _ _ _ _ _
      | exact ih1 _ _ _ _ _ _
      | exact LeO.none _
      | refine LeO.ite ?_ ?_
      | refine LeO.bind ?_ (fun _ => ?_)
set_option maxHeartbeats 8000000 in
set_option maxRecDepth 100000 in
theorem spec_ODRow.calls (k : Nat) (A0 : Option Addr) (c0 : Nat) (l0 : List Bool) (a1 : Int) (a2 : Int) (r : List Bool) (w : World) (hr0 : Kd.C Kd.bool w A0 l0.length l0) (hc0 : l0.length ≤ c0) (h : spec_ODRow.f k l0 a1 a2 = some r) :
    Calls Tryz.prog 17 #[.slice A0 l0.length c0, .int .i64 a1, .int .i64 a2] w fun e w' => ∃ v0_ : Value, e = .returned (v0_) ∧ Kd.R Kd.bool 4 w' w.heap.size (fun _ => True) v0_ r ∧ Below w.heap.size w w' := by
  have HR0 := Aside0.mk hr0
  have HC0 := Aside0.mk hc0
  clear hr0 hc0
  have HB := Aside0.mk (Below.refl w.heap.size w)
  have H : (if 0 ≤ (mx a1 (wrap64 ((l0.length : Int) + a2))) then (if (mx a1 (wrap64 ((l0.length : Int) + a2)) : Int).toNat ≤ 281474976710656 then (if (wrap64 ((l0.length : Int) + a2)) = 0 then (none) else (spec_ODRow.l0 k l0 (List.replicate (mx a1 (wrap64 ((l0.length : Int) + a2)) : Int).toNat false) (wrap64 (Int.tdiv (mx a1 (wrap64 ((l0.length : Int) + a2))) (wrap64 ((l0.length : Int) + a2)))) (wrap64 (Int.tdiv (wrap64 ((mx a1 (wrap64 ((l0.length : Int) + a2))) - (wrap64 ((l0.length : Int) * (wrap64 (Int.tdiv (mx a1 (wrap64 ((l0.length : Int) + a2))) (wrap64 ((l0.length : Int) + a2)))))))) 2)) 0)) else (none)) else (none)) = some r := h
  clear h
  obtain ⟨ji4, hji4⟩ : ∃ j_ : Int, (mx a1 (wrap64 ((l0.length : Int) + a2))) = j_ := ⟨_, rfl⟩
  replace H : (if 0 ≤ (ji4) then (if (ji4 : Int).toNat ≤ 281474976710656 then (if (wrap64 ((l0.length : Int) + a2)) = 0 then (none) else (spec_ODRow.l0 k l0 (List.replicate (ji4 : Int).toNat false) (wrap64 (Int.tdiv (ji4) (wrap64 ((l0.length : Int) + a2)))) (wrap64 (Int.tdiv (wrap64 ((ji4) - (wrap64 ((l0.length : Int) * (wrap64 (Int.tdiv (ji4) (wrap64 ((l0.length : Int) + a2)))))))) 2)) 0)) else (none)) else (none)) = some r := by first | (rw [hji4] at H; exact H) | (simp only [hji4] at H ⊢; exact H)
  have hji4_ : (if a1 < (wrap64 ((l0.length : Int) + a2)) then (wrap64 ((l0.length : Int) + a2)) else a1) = ji4 := hji4
  by_cases c5 : 0 ≤ (ji4)
  · rw [if_pos c5] at H
    have c5b0 := eq_true c5
    have c5b1 : decide (0 ≤ (ji4)) = true := decide_eq_true c5
    clear c5
    by_cases c6 : (ji4 : Int).toNat ≤ 281474976710656
    · rw [if_pos c6] at H
      have c6b0 := eq_true c6
      have c6b1 : decide ((ji4 : Int).toNat ≤ 281474976710656) = true := decide_eq_true c6
      clear c6
      obtain ⟨y123, hy123⟩ : ∃ y_ : List Bool, y_ = (List.replicate (ji4 : Int).toNat false) := ⟨_, rfl⟩
      replace H : (if (wrap64 ((l0.length : Int) + a2)) = 0 then (none) else (spec_ODRow.l0 k l0 y123 (wrap64 (Int.tdiv (ji4) (wrap64 ((l0.length : Int) + a2)))) (wrap64 (Int.tdiv (wrap64 ((ji4) - (wrap64 ((l0.length : Int) * (wrap64 (Int.tdiv (ji4) (wrap64 ((l0.length : Int) + a2)))))))) 2)) 0)) = some r := by first | (rw [hy123]; with_reducible exact H) | (have H2_ := (Option.bind_some _ _).symm.trans H; rw [hy123]; with_reducible exact H2_) | (have H2_ := (Option.bind_some _ _).symm.trans H; with_reducible exact H2_) | with_reducible exact H | (rw [hy123]; exact H) | exact H
      have Ny123 := Aside0.mk hy123
      clear hy123
      by_cases c7 : (wrap64 ((l0.length : Int) + a2)) = 0
      · rw [if_pos c7] at H
        exact absurd H (by simp)
      · rw [if_neg c7] at H
        have c7b0 : ((wrap64 ((l0.length : Int) + a2)) == 0) = false := beq_eq_false_iff_ne.mpr c7
        have c7b1 : ((wrap64 ((l0.length : Int) + a2)) != 0) = true := bne_iff_ne.mpr c7
        have H' := Aside0.mk H
        clear H
        go_enter Tryz.func17, Tryz.ntmps17
        go_wp2_with (first | ((with_reducible refine gate_dst (N := 22) rfl ?_); refine Kd.R_make Kd.bool _ 4 rfl (N := 22) rfl 27 _ _ rfl ji4 rfl rfl Tryz.underlying27 (.bool false) 1 info4 rfl (by decide) (by omega) false (ok := fun _ => True) (okp := fun _ => True) rfl (fun _ hk => hk) trivial (of_decide_eq_true (by first | (with_reducible assumption) | assumption)) (Nat.le_trans (Nat.mul_le_mul_right _ (of_decide_eq_true (by first | (with_reducible assumption) | assumption) : ji4.toNat ≤ 281474976710656)) (by omega)) (Below.refl _ _) (Nat.le_refl _) ?_; intro v124 w8 ho9 hb hg_ hnew_; clear hg_ hnew_; (first | rw [← Ny123.out] at ho9 | (simp only [Int.reduceToNat] at ho9; rw [← Ny123.out] at ho9)); have n0_ := Aside0.mk (Kd.R_lower ho9 (below_size (by repeat (first | (with_reducible first | exact HB.out | apply below_alloc | apply pw_below_drewN | apply below_drew1) | exact HB.out)))); have n1_ := Aside0.mk (below_step (by repeat (first | (with_reducible first | exact HB.out | apply below_alloc | apply pw_below_drewN | apply below_drew1) | exact HB.out)) hb); clear HB; have HO125 := n0_; have HB := n1_; clear n0_ n1_; clear hb ho9))
        go_loopg [12] k (fun kq v12 w' => ∃ (x9_1 : List Bool) (x12_1 : Int), v12 = .int .i64 x12_1 ∧ Aside0 (spec_ODRow.l0 kq l0 x9_1 (wrap64 (Int.tdiv (ji4) (wrap64 ((l0.length : Int) + a2)))) (wrap64 (Int.tdiv (wrap64 ((ji4) - (wrap64 ((l0.length : Int) * (wrap64 (Int.tdiv (ji4) (wrap64 ((l0.length : Int) + a2)))))))) 2)) x12_1 = some r) ∧ Aside0 (kq ≤ k) ∧ Aside0 (Kd.R Kd.bool 4 w' w.heap.size (fun _ => True) v124 x9_1) ∧ Aside0 (Below w.heap.size w w'))
        case atStart => exact ⟨(y123), (0), (by first | rfl | (simp; done) | (simp [*]; done)), H', ⟨Nat.le_refl _⟩, ⟨by (with_reducible repeat (first | apply Kd.R_alloc | apply Kd.R_drewN | apply Kd.R_drew)); exact HO125.out⟩, ⟨by repeat (first | (with_reducible first | exact HB.out | apply below_alloc | apply pw_below_drewN | apply below_drew1) | exact HB.out)⟩⟩
        case round =>
          clear H'
          try clear c1
          try clear p2
          try clear c5
          try clear c5b0
          try clear c5b1
          try clear c6
          try clear c6b0
          try clear c6b1
          try clear p6
          try clear c7
          try clear c7b0
          try clear c7b1
          obtain ⟨x9_1, x12_1, rfl, HA, HK1, HO_9, HB⟩ := hrel
          cases gk with
          | zero => exact absurd HA.out (by simp [spec_ODRow.l0])
          | succ k1 =>
            have H := HA.out
            clear HA
            simp only [spec_ODRow.l0] at H
            by_cases c10 : x12_1 < (l0.length : Int)
            · rw [if_pos c10] at H
              have c10b0 : decide (x12_1 < (l0.length : Int)) = true := decide_eq_true c10
              clear c10
              have H' := Aside0.mk H
              clear H
              go_wp2
              go_loopg [13] k1 (fun kq v13 w' => ∃ (x9_2 : List Bool) (x13_2 : Int), v13 = .int .i64 x13_2 ∧ Aside0 (spec_ODRow.l1 kq l0 x9_2 (wrap64 (Int.tdiv (ji4) (wrap64 ((l0.length : Int) + a2)))) (wrap64 (Int.tdiv (wrap64 ((ji4) - (wrap64 ((l0.length : Int) * (wrap64 (Int.tdiv (ji4) (wrap64 ((l0.length : Int) + a2)))))))) 2)) x12_1 x13_2 = some r) ∧ Aside0 (kq ≤ k1) ∧ Aside0 (Kd.R Kd.bool 4 w' w.heap.size (fun _ => True) v124 x9_2) ∧ Aside0 (Below w.heap.size w w'))
              case atStart => exact ⟨(x9_1), (0), (by first | rfl | (simp; done) | (simp [*]; done)), H', ⟨Nat.le_refl _⟩, ⟨by (with_reducible repeat (first | apply Kd.R_alloc | apply Kd.R_drewN | apply Kd.R_drew)); exact HO_9.out⟩, ⟨by repeat (first | (with_reducible first | exact HB.out | apply below_alloc | apply pw_below_drewN | apply below_drew1) | exact HB.out)⟩⟩
              case round =>
                clear H'
                try clear c1
                try clear p2
                try clear c5
                try clear c5b0
                try clear c5b1
                try clear c6
                try clear c6b0
                try clear c6b1
                try clear p6
                try clear c7
                try clear c7b0
                try clear c7b1
                try clear c10
                try clear c10b0
                try clear p2
                try clear p6
                obtain ⟨x9_2, x13_2, rfl, HA, HK2, HO_9, HB⟩ := hrel
                cases gk with
                | zero => exact absurd HA.out (by simp [spec_ODRow.l1])
                | succ k2 =>
                  have H := HA.out
                  clear HA
                  simp only [spec_ODRow.l1] at H
                  by_cases c11 : x13_2 < (wrap64 (Int.tdiv (ji4) (wrap64 ((l0.length : Int) + a2))))
                  · rw [if_pos c11] at H
                    have c11b0 : decide (x13_2 < (wrap64 (Int.tdiv (ji4) (wrap64 ((l0.length : Int) + a2))))) = true := decide_eq_true c11
                    clear c11
                    by_cases c12 : 0 ≤ x12_1
                    · rw [if_pos c12] at H
                      have c12b0 : decide (0 ≤ x12_1) = true := decide_eq_true c12
                      clear c12
                      by_cases c13 : x12_1 < (l0.length : Int)
                      · rw [if_pos c13] at H
                        have c13b0 : decide (x12_1 < (l0.length : Int)) = true := decide_eq_true c13
                        clear c13
                        obtain ⟨ji14, hji14⟩ : ∃ j_ : Int, (wrap64 ((wrap64 ((wrap64 (Int.tdiv (wrap64 ((ji4) - (wrap64 ((l0.length : Int) * (wrap64 (Int.tdiv (ji4) (wrap64 ((l0.length : Int) + a2)))))))) 2)) + (wrap64 (x12_1 * (wrap64 (Int.tdiv (ji4) (wrap64 ((l0.length : Int) + a2)))))))) + x13_2)) = j_ := ⟨_, rfl⟩
                        replace H : (if 0 ≤ (ji14) then (if (ji14) < (x9_2.length : Int) then (spec_ODRow.l1 k2 l0 (x9_2.set ((ji14) : Int).toNat (rdOf false l0 x12_1)) (wrap64 (Int.tdiv (ji4) (wrap64 ((l0.length : Int) + a2)))) (wrap64 (Int.tdiv (wrap64 ((ji4) - (wrap64 ((l0.length : Int) * (wrap64 (Int.tdiv (ji4) (wrap64 ((l0.length : Int) + a2)))))))) 2)) x12_1 (wrap64 (x13_2 + 1))) else (none)) else (none)) = some r := by first | (rw [hji14] at H; exact H) | (simp only [hji14] at H ⊢; exact H)
                        have hji14w : (IntKind.i64.wrap ((wrap64 ((wrap64 (Int.tdiv (wrap64 ((ji4) - (wrap64 ((l0.length : Int) * (wrap64 (Int.tdiv (ji4) (wrap64 ((l0.length : Int) + a2)))))))) 2)) + (wrap64 (x12_1 * (wrap64 (Int.tdiv (ji4) (wrap64 ((l0.length : Int) + a2)))))))) + x13_2)) = ji14 := (i64_w _).trans hji14
                        by_cases c15 : 0 ≤ (ji14)
                        · rw [if_pos c15] at H
                          have c15b0 : decide (0 ≤ (ji14)) = true := decide_eq_true c15
                          clear c15
                          by_cases c16 : (ji14) < (x9_2.length : Int)
                          · rw [if_pos c16] at H
                            have c16b0 : decide ((ji14) < (x9_2.length : Int)) = true := decide_eq_true c16
                            clear c16
                            obtain ⟨y127, hy127⟩ : ∃ y_ : List Bool, y_ = (x9_2.set ((ji14) : Int).toNat (rdOf false l0 x12_1)) := ⟨_, rfl⟩
                            replace H : (spec_ODRow.l1 k2 l0 y127 (wrap64 (Int.tdiv (ji4) (wrap64 ((l0.length : Int) + a2)))) (wrap64 (Int.tdiv (wrap64 ((ji4) - (wrap64 ((l0.length : Int) * (wrap64 (Int.tdiv (ji4) (wrap64 ((l0.length : Int) + a2)))))))) 2)) x12_1 (wrap64 (x13_2 + 1))) = some r := by first | (rw [hy127]; with_reducible exact H) | (have H2_ := (Option.bind_some _ _).symm.trans H; rw [hy127]; with_reducible exact H2_) | (have H2_ := (Option.bind_some _ _).symm.trans H; with_reducible exact H2_) | with_reducible exact H | (rw [hy127]; exact H) | exact H
                            have Ny127 := Aside0.mk hy127
                            clear hy127
                            have H' := Aside0.mk H
                            clear H
                            have p126 : 0 ≤ (x12_1 : Int) := of_decide_eq_true (by first | (with_reducible assumption) | assumption)
                            have q126 : x12_1 < (l0.length : Int) := of_decide_eq_true (by first | (with_reducible assumption) | assumption)
                            obtain ⟨ad126, e126, hx126_0⟩ := Kd.at_bool HR0.out x12_1 p126 q126
                            cases e126
                            replace hx126_0 := (HB.out.cell (World.block_lt_of_cell? w _ hx126_0)).trans hx126_0
                            replace p126 := eq_true p126
                            replace q126 := eq_true q126
                            have p17 : 0 ≤ ((ji14) : Int) := of_decide_eq_true (by first | (with_reducible assumption) | assumption)
                            have q17 : ((ji14) : Int) < ((x9_2.length : Int) : Int) := of_decide_eq_true (by first | (with_reducible assumption) | assumption)
                            obtain ⟨go17, co17, eo17, gb17, gl17, cl17, HG17⟩ := Kd.R_form HO_9.out (by omega)
                            (first | cases eo17 | (injection eo17 with ea_ en_ ec_; (first | subst ea_ | (injection ea_ with ea_; subst ea_)); subst ec_; clear en_))
                            have GB17 := Aside0.mk gb17
                            have GG17 := Aside0.mk HG17
                            clear gb17 gl17 HG17
                            obtain ⟨hx17_0, hf17_0⟩ := Kd.R_celln false HO_9.out ((ji14) : Int) p17 q17
                            replace p17 := eq_true p17
                            replace q17 := eq_true q17
                            have HP18 := Kd.R_putg HO_9.out ((ji14) : Int) (rdOf false l0 x12_1)
                            go_wp2_with (first | ((with_reducible refine gate_store (t := 4) (p := 56) rfl ?_); refine store_event (t := 4) (p := 56) (v := ?vo_w19) (w1 := (wr.setCell ⟨go17, ((ji14) : Int).toNat, none⟩ (.bool (rdOf false l0 x12_1)))) ?hg ?ho ?hn ?hr ?_; (case ho => rfl); (case hg => rfl); (case hn => rfl); (case hr => first | (go_simp; done) | (go_simp; rfl)); intro w19 hw; have hg : wr.grownBy w19 (some go17) := (by rw [hw]; exact HP18.2); have hp_ : Kd.R Kd.bool 4 w19 w.heap.size (fun _ => True) (.slice (some ⟨go17, 0, none⟩) x9_2.length co17) y127 := (by rw [hw, Ny127.out]; exact HP18.1); clear HP18; have n0_ := Aside0.mk (hp_); have n1_ := Aside0.mk ((by rw [hw]; exact below_set (HB.out) GB17.out : Below w.heap.size w w19)); clear HO_9; clear HB; have HO_9 := n0_; have HB := n1_; clear n0_ n1_; clear hg hw hp_))
                            go_roundg k2
                            case measure => have := HK1.out; have := HK2.out; omega
                            case rel => exact ⟨(y127), (wrap64 (x13_2 + 1)), (by first | rfl | (simp; done) | (simp [*]; done)), H', ⟨by have := HK1.out; have := HK2.out; omega⟩, ⟨by (with_reducible repeat (first | apply Kd.R_alloc | apply Kd.R_drewN | apply Kd.R_drew)); exact HO_9.out⟩, ⟨by repeat (first | (with_reducible first | exact HB.out | apply below_alloc | apply pw_below_drewN | apply below_drew1) | exact HB.out)⟩⟩
                          · rw [if_neg c16] at H
                            exact absurd H (by simp)
                        · rw [if_neg c15] at H
                          exact absurd H (by simp)
                      · rw [if_neg c13] at H
                        exact absurd H (by simp)
                    · rw [if_neg c12] at H
                      exact absurd H (by simp)
                  · rw [if_neg c11] at H
                    have c11b0 : decide (x13_2 < (wrap64 (Int.tdiv (ji4) (wrap64 ((l0.length : Int) + a2))))) = false := decide_eq_false c11
                    clear c11
                    have H' := Aside0.mk H
                    clear H
                    go_wp2
                    go_roundg k2
                    case measure => have := HK1.out; have := HK2.out; omega
                    case rel => exact ⟨(x9_2), (wrap64 (x12_1 + 1)), (by first | rfl | (simp; done) | (simp [*]; done)), H', ⟨by have := HK1.out; have := HK2.out; omega⟩, ⟨by (with_reducible repeat (first | apply Kd.R_alloc | apply Kd.R_drewN | apply Kd.R_drew)); exact HO_9.out⟩, ⟨by repeat (first | (with_reducible first | exact HB.out | apply below_alloc | apply pw_below_drewN | apply below_drew1) | exact HB.out)⟩⟩
            · rw [if_neg c10] at H
              have c10b0 : decide (x12_1 < (l0.length : Int)) = false := decide_eq_false c10
              clear c10
              obtain rfl := Option.some.inj H
              go_wp2
              go_ret
              exact ⟨_, by first | rfl | (simp [errW_none, errW_some] <;> rfl) | (simp only [← hji4]; first | rfl | (simp [errW_none, errW_some] <;> rfl)) | (simp [*, errW_none, errW_some] <;> rfl), by (with_reducible repeat (first | apply Kd.R_alloc | apply Kd.R_drewN | apply Kd.R_drew)); exact HO_9.out, by repeat (first | (with_reducible first | exact HB.out | apply below_alloc | apply pw_below_drewN | apply below_drew1) | exact HB.out)⟩
    · rw [if_neg c6] at H
      exact absurd H (by simp)
  · rw [if_neg c5] at H
    exact absurd H (by simp)

/-! ### spec_ODSome: function 25 -/
def spec_ODSome.l0 : Nat → ByteArray → List Int → Int → ByteArray → Int → Option (ByteArray)
  | 0, _, _, _, _, _ => none
  | k + 1, x0, x1, x2, x7, x8 => if x8 < (x1.length : Int) then (if x8 < x2 then (if 0 ≤ x8 then (if (x0.size : Int) = 0 then (none) else (if 0 ≤ (Int.tmod (wrap64 (rd x1 x8)) (x0.size : Int)) then (if (Int.tmod (wrap64 (rd x1 x8)) (x0.size : Int)) ≤ (wrap64 ((Int.tmod (wrap64 (rd x1 x8)) (x0.size : Int)) + 1)) then (if (wrap64 ((Int.tmod (wrap64 (rd x1 x8)) (x0.size : Int)) + 1)) ≤ (x0.size : Int) then (if x7.size + (x0.extract ((Int.tmod (wrap64 (rd x1 x8)) (x0.size : Int)) : Int).toNat ((wrap64 ((Int.tmod (wrap64 (rd x1 x8)) (x0.size : Int)) + 1)) : Int).toNat).size ≤ 9223372036854775807 then (spec_ODSome.l0 k x0 x1 x2 (x7 ++ (x0.extract ((Int.tmod (wrap64 (rd x1 x8)) (x0.size : Int)) : Int).toNat ((wrap64 ((Int.tmod (wrap64 (rd x1 x8)) (x0.size : Int)) + 1)) : Int).toNat)) (wrap64 (x8 + 1))) else (none)) else (none)) else (none)) else (none))) else (none)) else (some x7)) else (some x7)
def spec_ODSome.f (k : Nat) (a0 : ByteArray) (l1 : List Int) (a2 : Int) : Option (ByteArray) := spec_ODSome.l0 k a0 l1 a2 (⟨#[]⟩ : ByteArray) 0
theorem spec_ODSome.mono_l : ∀ k, (∀ y0 y1 y2 y3 y4, LeO (spec_ODSome.l0 k y0 y1 y2 y3 y4) (spec_ODSome.l0 (k + 1) y0 y1 y2 y3 y4))
  | 0 => fun _ _ _ _ _ r h => by simp [spec_ODSome.l0] at h
  | k + 1 => by
    have ih0 := spec_ODSome.mono_l k
    · intro y0 y1 y2 y3 y4
      unfold spec_ODSome.l0
      repeat' first
      | (with_reducible exact ih0 _ _ _ _ _)
      | (with_reducible exact LeO.refl _)
      | (with_reducible exact LeO.none _)
      | (with_reducible refine LeO.ite ?_ ?_)
      | (with_reducible refine LeO.bind ?_ (fun _ => ?_))
      | exact ih0 _ _ _ _ _
      | exact LeO.none _
      | refine LeO.ite ?_ ?_
      | refine LeO.bind ?_ (fun _ => ?_)
theorem spec_ODSome.mono : ∀ a0 a1 a2 k, LeO (spec_ODSome.f k a0 a1 a2) (spec_ODSome.f (k + 1) a0 a1 a2) := by
  intro a0 a1 a2 k
  have ih0 := spec_ODSome.mono_l k
  unfold spec_ODSome.f
  repeat' first
      | (with_reducible exact ih0 _ _ _ _ _)
      | (with_reducible exact LeO.refl _)
      | (with_reducible exact LeO.none _)
      | (with_reducible refine LeO.ite ?_ ?_)
      | (with_reducible refine LeO.bind ?_ (fun _ => ?_))
      | exact ih0 _ _ _ _ _
      | exact LeO.none _
      | refine LeO.ite ?_ ?_
      | refine LeO.bind ?_ (fun _ => ?_)
set_option maxHeartbeats 8000000 in
set_option maxRecDepth 100000 in
theorem spec_ODSome.calls (k : Nat) (a0 : ByteArray) (A1 : Option Addr) (c1 : Nat) (l1 : List Int) (a2 : Int) (r : ByteArray) (w : World) (hr1 : Kd.C (Kd.int .u8) w A1 l1.length l1) (hc1 : l1.length ≤ c1) (h : spec_ODSome.f k a0 l1 a2 = some r) :
    Calls Tryz.prog 25 #[.string a0, .slice A1 l1.length c1, .int .i64 a2] w fun e w' => e = .returned (.string r) ∧ Drawn0 w w' := by
  have HR1 := Aside0.mk hr1
  have HC1 := Aside0.mk hc1
  clear hr1 hc1
  have H : (spec_ODSome.l0 k a0 l1 a2 (⟨#[]⟩ : ByteArray) 0) = some r := h
  clear h
  have H' := Aside0.mk H
  clear H
  go_enter Tryz.func25, Tryz.ntmps25
  go_wp2
  go_loopg [7, 8] k (fun kq v7 v8 w' => ∃ (x7_1 : ByteArray) (x8_1 : Int), v7 = .string x7_1 ∧ v8 = .int .i64 x8_1 ∧ Aside0 (spec_ODSome.l0 kq a0 l1 a2 x7_1 x8_1 = some r) ∧ Aside0 (kq ≤ k) ∧ Drawn0 w w')
  case atStart => exact ⟨((⟨#[]⟩ : ByteArray)), (0), (by first | rfl | (simp; done) | (simp [*]; done)), (by first | rfl | (simp; done) | (simp [*]; done)), H', ⟨Nat.le_refl _⟩, by repeat (first | exact Drawn0.refl _ | apply Drawn0.step)⟩
  case round =>
    clear H'
    try clear c1
    try clear c2
    try clear p2
    obtain ⟨x7_1, x8_1, rfl, rfl, HA, HK1, ⟨m1, rfl⟩⟩ := hrel
    cases gk with
    | zero => exact absurd HA.out (by simp [spec_ODSome.l0])
    | succ k1 =>
      have H := HA.out
      clear HA
      simp only [spec_ODSome.l0] at H
      by_cases c4 : x8_1 < (l1.length : Int)
      · rw [if_pos c4] at H
        have c4b0 : decide (x8_1 < (l1.length : Int)) = true := decide_eq_true c4
        clear c4
        by_cases c5 : x8_1 < a2
        · rw [if_pos c5] at H
          have c5b0 : decide (x8_1 < a2) = true := decide_eq_true c5
          clear c5
          by_cases c6 : 0 ≤ x8_1
          · rw [if_pos c6] at H
            have c6b0 : decide (0 ≤ x8_1) = true := decide_eq_true c6
            clear c6
            by_cases c7 : (a0.size : Int) = 0
            · rw [if_pos c7] at H
              exact absurd H (by simp)
            · rw [if_neg c7] at H
              have c7b0 : ((a0.size : Int) == 0) = false := beq_eq_false_iff_ne.mpr c7
              have c7b1 : ((a0.size : Int) != 0) = true := bne_iff_ne.mpr c7
              obtain ⟨ji8, hji8⟩ : ∃ j_ : Int, (Int.tmod (wrap64 (rd l1 x8_1)) (a0.size : Int)) = j_ := ⟨_, rfl⟩
              replace H : (if 0 ≤ (ji8) then (if (ji8) ≤ (wrap64 ((ji8) + 1)) then (if (wrap64 ((ji8) + 1)) ≤ (a0.size : Int) then (if x7_1.size + (a0.extract ((ji8) : Int).toNat ((wrap64 ((ji8) + 1)) : Int).toNat).size ≤ 9223372036854775807 then (spec_ODSome.l0 k1 a0 l1 a2 (x7_1 ++ (a0.extract ((ji8) : Int).toNat ((wrap64 ((ji8) + 1)) : Int).toNat)) (wrap64 (x8_1 + 1))) else (none)) else (none)) else (none)) else (none)) = some r := by first | (rw [hji8] at H; exact H) | (simp only [hji8] at H ⊢; exact H)
              by_cases c9 : 0 ≤ (ji8)
              · rw [if_pos c9] at H
                have c9b0 := eq_true c9
                have c9b1 : decide (0 ≤ (ji8)) = true := decide_eq_true c9
                clear c9
                by_cases c10 : (ji8) ≤ (wrap64 ((ji8) + 1))
                · rw [if_pos c10] at H
                  have c10b0 := eq_true c10
                  have c10b1 : decide ((ji8) ≤ (wrap64 ((ji8) + 1))) = true := decide_eq_true c10
                  by_cases c11 : (wrap64 ((ji8) + 1)) ≤ (a0.size : Int)
                  · rw [if_pos c11] at H
                    have c11b0 := eq_true c11
                    have c11b1 : decide ((wrap64 ((ji8) + 1)) ≤ (a0.size : Int)) = true := decide_eq_true c11
                    by_cases c12 : x7_1.size + (a0.extract ((ji8) : Int).toNat ((wrap64 ((ji8) + 1)) : Int).toNat).size ≤ 9223372036854775807
                    · rw [if_pos c12] at H
                      have c12b0 := eq_true c12
                      have c12b1 : decide (x7_1.size + (a0.extract ((ji8) : Int).toNat ((wrap64 ((ji8) + 1)) : Int).toNat).size ≤ 9223372036854775807) = true := decide_eq_true c12
                      try have c12b2 : (9223372036854775807 < x7_1.size + (a0.extract ((ji8) : Int).toNat ((wrap64 ((ji8) + 1)) : Int).toNat).size) = False := eq_false (Nat.not_lt.2 c12)
                      have H' := Aside0.mk H
                      clear H
                      have p187 : 0 ≤ (x8_1 : Int) := of_decide_eq_true (by first | (with_reducible assumption) | assumption)
                      have q187 : x8_1 < (l1.length : Int) := of_decide_eq_true (by first | (with_reducible assumption) | assumption)
                      obtain ⟨ad187, e187, hx187_0⟩ := Kd.at_int HR1.out x8_1 p187 q187
                      cases e187
                      replace p187 := eq_true p187
                      replace q187 := eq_true q187
                      go_wp2
                      go_roundg k1
                      case measure => have := HK1.out; omega
                      case rel => exact ⟨(x7_1 ++ (a0.extract ((ji8) : Int).toNat ((wrap64 ((ji8) + 1)) : Int).toNat)), (wrap64 (x8_1 + 1)), (by first | rfl | (simp; done) | (simp only [← hji8] <;> (first | rfl | simp)) | (simp [*]; done)), (by first | rfl | (simp; done) | (simp [*]; done)), H', ⟨by have := HK1.out; omega⟩, by repeat (first | exact Drawn0.refl _ | apply Drawn0.step)⟩
                    · rw [if_neg c12] at H
                      exact absurd H (by simp)
                  · rw [if_neg c11] at H
                    exact absurd H (by simp)
                · rw [if_neg c10] at H
                  exact absurd H (by simp)
              · rw [if_neg c9] at H
                exact absurd H (by simp)
          · rw [if_neg c6] at H
            exact absurd H (by simp)
        · rw [if_neg c5] at H
          have c5b0 : decide (x8_1 < a2) = false := decide_eq_false c5
          clear c5
          obtain rfl := Option.some.inj H
          go_wp2
          go_ret
          exact ⟨by first | rfl | (simp; done) | (simp [*]; done), by repeat (first | exact Drawn0.refl _ | apply Drawn0.step)⟩
      · rw [if_neg c4] at H
        have c4b0 : decide (x8_1 < (l1.length : Int)) = false := decide_eq_false c4
        clear c4
        obtain rfl := Option.some.inj H
        go_wp2
        go_ret
        exact ⟨by first | rfl | (simp; done) | (simp [*]; done), by repeat (first | exact Drawn0.refl _ | apply Drawn0.step)⟩

/-! ### laws_odWidths: function 14 -/
def laws_odWidths.f (a0 : Int) (a1 : Int) : Option (Int × Int) := some (Int.tmod (wrap64 (a0)) 3000, wrap64 (20 + (Int.tmod (wrap64 (a1)) 40)))
set_option maxHeartbeats 8000000 in
set_option maxRecDepth 100000 in
theorem laws_odWidths.calls (a0 : Int) (a1 : Int) (r1 : Int) (r2 : Int) (w : World) (h : laws_odWidths.f a0 a1 = some (r1, r2)) :
    Calls Tryz.prog 14 #[.int .u16 a0, .int .u8 a1] w fun e w' => e = .returned (.tuple #[.int .i64 r1, .int .i64 r2]) ∧ Drawn0 w w' := by
  have H : (some (Int.tmod (wrap64 (a0)) 3000, wrap64 (20 + (Int.tmod (wrap64 (a1)) 40)))) = some (r1, r2) := h
  clear h
  simp only [Option.some.injEq, Prod.mk.injEq] at H
  obtain ⟨rfl, rfl⟩ := H
  go_enter Tryz.func14, Tryz.ntmps14
  go_wp2
  go_ret2
  exact ⟨by first | rfl | (simp; done) | (simp [*]; done), by repeat (first | exact Drawn0.refl _ | apply Drawn0.step)⟩

-- NOT PRINTED: function 70 (oned_NewOneDimensionalCodeWriter)

-- NOT PRINTED: function 48 (oned_NewCodaBarWriter)

-- NOT PRINTED: function 49 (oned_NewCode39Writer)

-- NOT PRINTED: function 50 (oned_NewCode93Writer)

-- NOT PRINTED: function 51 (oned_NewCode128Writer)

-- NOT PRINTED: function 71 (oned_NewUPCEANWriter)

-- NOT PRINTED: function 52 (oned_NewEAN8Writer)

-- NOT PRINTED: function 53 (oned_NewEAN13Writer)

-- NOT PRINTED: function 54 (oned_NewITFWriter)

-- NOT PRINTED: function 55 (oned_NewUPCAWriter)

-- NOT PRINTED: function 56 (oned_NewUPCEWriter)

-- NOT PRINTED: function 29 (impl_writer)

/-- A state of type 100 at block g of W; what its slices lead to came in by w0. -/
def IsS100 (w0 W : World) (g : Nat) (f0 : List Int) (f1 : Int) : Prop := ∃ A0 c0, W.heap[g]? = some (.cells #[.slice A0 f0.length c0, .int .i64 f1] 100 (0, 0)) ∧ w0.heap.size ≤ g ∧ Kd.C (Kd.int .u32) w0 A0 f0.length f0
theorem IsS100.grown {w0 W : World} {g : Nat} {f0 : List Int} {f1 : Int} {W1 : World} {row : Option Nat} (h : IsS100 w0 W g f0 f1) (hw : W.grownBy W1 row) (hne : some g ≠ row) : IsS100 w0 W1 g f0 f1 := by
  obtain ⟨A0, c0, hb, hg, hr0⟩ := h
  exact ⟨A0, c0, blk_grown hb hw hne, hg, hr0⟩
theorem IsS100.own_neN {w0 W : World} {g : Nat} {f0 : List Int} {f1 : Int} {α : Type} {d : Kd α} {e : Nat} {base : Nat} {ok : Nat → Prop} {v : Value} {xs : List α} (h : IsS100 w0 W g f0 f1) (ho : Kd.N d e W base ok v xs) (ht : e ≠ 100) : some g ≠ v.ownBlock := by
  obtain ⟨A0, c0, hb, hg, hr0⟩ := h
  exact Kd.N_ne ho hb ht
theorem IsS100.fresh {w0 W : World} {g : Nat} {f0 : List Int} {f1 : Int} (h : IsS100 w0 W g f0 f1) : ∀ k, W.heap.size ≤ k → k ≠ g := by
  obtain ⟨A0, c0, hb, hg, hr0⟩ := h
  exact Kd.freshB hb
theorem IsS100.kept {w0 W : World} {g : Nat} {f0 : List Int} {f1 : Int} {W1 : World} {S : Nat → Prop} (h : IsS100 w0 W g f0 f1) (hk : Kept W W1 S) (hne : ¬ S g) : IsS100 w0 W1 g f0 f1 := by
  obtain ⟨A0, c0, hb, hg, hr0⟩ := h
  exact ⟨A0, c0, blk_kept hb hk hne, hg, hr0⟩
theorem IsS100.below {w0 W : World} {g : Nat} {f0 : List Int} {f1 : Int} {W1 : World} (h : IsS100 w0 W g f0 f1) (hw : Below W.heap.size W W1) : IsS100 w0 W1 g f0 f1 := h.grown (grown_of_below hw none) (by simp)
theorem IsS100.alloc {w0 W : World} {g : Nat} {f0 : List Int} {f1 : Int} (h : IsS100 w0 W g f0 f1) (o : Obj) : IsS100 w0 (W.alloc o) g f0 f1 := h.below (below_alloc (Below.refl _ _) o)
theorem IsS100.drewN {w0 W : World} {g : Nat} {f0 : List Int} {f1 : Int} (h : IsS100 w0 W g f0 f1) (m : Nat) : IsS100 w0 (W.drewN m) g f0 f1 := h
theorem IsS100.drew {w0 W : World} {g : Nat} {f0 : List Int} {f1 : Int} (h : IsS100 w0 W g f0 f1) : IsS100 w0 W.drew g f0 f1 := h
theorem IsS100.at_ {w0 W : World} {g : Nat} {f0 : List Int} {f1 : Int} {w' : World} {m : Nat} (hq : W.drewN m = w') (h : IsS100 w0 W g f0 f1) : IsS100 w0 w' g f0 f1 := by subst hq; exact IsS100.drewN h m
theorem IsS100.apart {w0 W : World} {g : Nat} {f0 : List Int} {f1 : Int} {α : Type} {d : Kd α} {e : Nat} {base : Nat} {ok : Nat → Prop} {v : Value} {xs : List α} (h : IsS100 w0 W g f0 f1) (ho : d.R e W base ok v xs) (ht : ∀ q, q ∈ e :: d.E → q ≠ 100) : d.R e W base (fun k => ok k ∧ k ≠ g) v xs := by
  obtain ⟨A0, c0, hb, hg, hr0⟩ := h
  exact Kd.R_types ho hb ht
theorem IsS100.own_ne {w0 W : World} {g : Nat} {f0 : List Int} {f1 : Int} {α : Type} {d : Kd α} {e : Nat} {base : Nat} {ok : Nat → Prop} {v : Value} {xs : List α} (h : IsS100 w0 W g f0 f1) (ho : d.R e W base ok v xs) (ht : e ≠ 100) : some g ≠ v.ownBlock := by
  obtain ⟨A0, c0, hb, hg, hr0⟩ := h
  exact Kd.R_ne ho hb ht
theorem IsS100.apartQ {w0 W : World} {g : Nat} {f0 : List Int} {f1 : Int} {α : Type} {d : Kd α} {e : Nat} {base : Nat} {ok : Nat → Prop} {v : Value} {xs : List α} (h : IsS100 w0 W g f0 f1) (ho : d.Q e W base ok v xs) (ht : ∀ q, q ∈ e :: d.E → q ≠ 100) : d.Q e W base (fun k => ok k ∧ k ≠ g) v xs := by
  obtain ⟨A0, c0, hb, hg, hr0⟩ := h
  exact Kd.Q_types ho hb ht
theorem IsS100.own_neQ {w0 W : World} {g : Nat} {f0 : List Int} {f1 : Int} {α : Type} {d : Kd α} {e : Nat} {base : Nat} {ok : Nat → Prop} {v : Value} {xs : List α} (h : IsS100 w0 W g f0 f1) (ho : d.Q e W base ok v xs) (ht : e ≠ 100) : some g ≠ v.ownBlock := by
  obtain ⟨A0, c0, hb, hg, hr0⟩ := h
  exact Kd.Q_ne ho hb ht
theorem IsS100.apartS {w0 W : World} {g : Nat} {f0 : List Int} {f1 : Int} {α : Type} {d : Kd α} {e : Nat} {base : Nat} {ok : Nat → Prop} {v : Value} {xs : List α} (h : IsS100 w0 W g f0 f1) (ho : d.S e W base ok v xs) (ht : ∀ q, q ∈ e :: d.E → q ≠ 100) : d.S e W base (fun k => ok k ∧ k ≠ g) v xs := by
  obtain ⟨A0, c0, hb, hg, hr0⟩ := h
  exact Kd.S_types ho hb ht
theorem IsS100.own_neS {w0 W : World} {g : Nat} {f0 : List Int} {f1 : Int} {α : Type} {d : Kd α} {e : Nat} {base : Nat} {ok : Nat → Prop} {v : Value} {xs : List α} (h : IsS100 w0 W g f0 f1) (ho : d.S e W base ok v xs) (ht : e ≠ 100) : some g ≠ v.ownBlock := by
  obtain ⟨A0, c0, hb, hg, hr0⟩ := h
  exact Kd.S_ne ho hb ht
theorem IsS100.lt {w0 W : World} {g : Nat} {f0 : List Int} {f1 : Int} (h : IsS100 w0 W g f0 f1) : g < W.heap.size := by
  obtain ⟨A0, c0, hb, hg, hr0⟩ := h
  exact blk_lt hb
theorem IsS100.ge {w0 W : World} {g : Nat} {f0 : List Int} {f1 : Int} (h : IsS100 w0 W g f0 f1) : w0.heap.size ≤ g := by
  obtain ⟨A0, c0, hb, hg, hr0⟩ := h
  exact hg
theorem IsS100.ne_blk {w0 W : World} {g : Nat} {f0 : List Int} {f1 : Int} {a : Nat} {cs : Array Value} {t : TypeId} {fr : Nat × Nat} (h : IsS100 w0 W g f0 f1) (hb2 : W.heap[a]? = some (.cells cs t fr)) (ht : t ≠ 100) : g ≠ a := by
  obtain ⟨A0, c0, hb, hg, hr0⟩ := h
  rintro rfl
  rw [hb] at hb2
  injection hb2 with hb2
  injection hb2 with _ ht2
  exact ht ht2.symm
theorem IsS100.far {w0 W : World} {g : Nat} {f0 : List Int} {f1 : Int} {p : Addr} (h : IsS100 w0 W g f0 f1) (hne : g ≠ p.block) (u : Value) : IsS100 w0 (W.setCell p u) g f0 f1 := by
  obtain ⟨A0, c0, hb, hg, hr0⟩ := h
  exact ⟨A0, c0, blk_far hb hne u, hg, hr0⟩
theorem cellS100_0 {W : World} {g : Nat} {A0 : Option Addr} {c0 : Nat} {f0 : List Int} {f1 : Int} (h : W.heap[g]? = some (.cells #[.slice A0 f0.length c0, .int .i64 f1] 100 (0, 0))) : W.cell? ⟨g, 0, none⟩ = some (.slice A0 f0.length c0) := (blk_cell h 0).trans rfl
theorem cellS100_1 {W : World} {g : Nat} {A0 : Option Addr} {c0 : Nat} {f0 : List Int} {f1 : Int} (h : W.heap[g]? = some (.cells #[.slice A0 f0.length c0, .int .i64 f1] 100 (0, 0))) : W.cell? ⟨g, 1, none⟩ = some (.int .i64 f1) := (blk_cell h 1).trans rfl
theorem IsS100.set_1 {w0 W : World} {g : Nat} {f0 : List Int} {f1 : Int} (h : IsS100 w0 W g f0 f1) (x : Int) : IsS100 w0 (W.setCell ⟨g, 1, none⟩ (.int .i64 x)) g f0 x := by
  obtain ⟨A0, c0, hb, hg, hr0⟩ := h
  exact ⟨A0, c0, by simpa using blk_set hb 1 (.int .i64 x), hg, hr0⟩
theorem IsS100.new (w0 W : World) (A0 : Option Addr) (c0 : Nat) (f0 : List Int) (f1 : Int) (hB : Below w0.heap.size w0 W) (hr0 : Kd.C (Kd.int .u32) w0 A0 f0.length f0) : IsS100 w0 (W.alloc (.cells #[.slice A0 f0.length c0, .int .i64 f1] 100)) W.heap.size f0 f1 := ⟨A0, c0, by simpa using heap_alloc_new W _, hB.size, hr0⟩

/-! ### oned_onedWriter_appendPattern: function 145 -/
mutual
def oned_onedWriter_appendPattern.l0 : Nat → List Bool → Int → Bool → Int → List Int → Int → Int → Option (Int × List Bool)
  | 0, _, _, _, _, _, _, _ => none
  | k + 1, x0, x1, x9, x10, x15, x16, x17 => if x17 < x16 then (if 0 ≤ x17 then (if x17 < (x15.length : Int) then (oned_onedWriter_appendPattern.l1 k x0 x1 x9 x10 (rd x15 x17) 0 x15 x16 x17) else (none)) else (none)) else (some (x10, x0))
def oned_onedWriter_appendPattern.l1 : Nat → List Bool → Int → Bool → Int → Int → Int → List Int → Int → Int → Option (Int × List Bool)
  | 0, _, _, _, _, _, _, _, _, _ => none
  | k + 1, x0, x1, x9, x10, x12, x13, x15, x16, x17 => if x13 < x12 then (if 0 ≤ x1 then (if x1 < (x0.length : Int) then (oned_onedWriter_appendPattern.l1 k (x0.set (x1 : Int).toNat x9) (wrap64 (x1 + 1)) x9 x10 x12 (wrap64 (x13 + 1)) x15 x16 x17) else (none)) else (none)) else (oned_onedWriter_appendPattern.l0 k x0 x1 (!x9) (wrap64 (x10 + x12)) x15 x16 (wrap64 (x17 + 1)))
end
def oned_onedWriter_appendPattern.f (k : Nat) (l0 : List Bool) (a1 : Int) (l2 : List Int) (a3 : Bool) : Option (Int × List Bool) := oned_onedWriter_appendPattern.l0 k l0 a1 a3 0 l2 (l2.length : Int) 0
theorem oned_onedWriter_appendPattern.mono_l : ∀ k, (∀ y0 y1 y2 y3 y4 y5 y6, LeO (oned_onedWriter_appendPattern.l0 k y0 y1 y2 y3 y4 y5 y6) (oned_onedWriter_appendPattern.l0 (k + 1) y0 y1 y2 y3 y4 y5 y6)) ∧ (∀ y0 y1 y2 y3 y4 y5 y6 y7 y8, LeO (oned_onedWriter_appendPattern.l1 k y0 y1 y2 y3 y4 y5 y6 y7 y8) (oned_onedWriter_appendPattern.l1 (k + 1) y0 y1 y2 y3 y4 y5 y6 y7 y8))
  | 0 => ⟨fun _ _ _ _ _ _ _ r h => by simp [oned_onedWriter_appendPattern.l0] at h, fun _ _ _ _ _ _ _ _ _ r h => by simp [oned_onedWriter_appendPattern.l1] at h⟩
  | k + 1 => by
    obtain ⟨ih0, ih1⟩ := oned_onedWriter_appendPattern.mono_l k
    refine ⟨?_, ?_⟩
    · intro y0 y1 y2 y3 y4 y5 y6
      unfold oned_onedWriter_appendPattern.l0
      repeat' first
      | (with_reducible exact ih0 _ _ _ _ _ _ _)
      | (with_reducible exact ih1 _ _ _ _ _ _ _ _ _)
      | (with_reducible exact LeO.refl _)
      | (with_reducible exact LeO.none _)
      | (with_reducible refine LeO.ite ?_ ?_)
      | (with_reducible refine LeO.bind ?_ (fun _ => ?_))
      | exact ih0 _ _ _ _ _ _ _
      | exact ih1 _ _ _ _ _ _ _ _ _
      | exact LeO.none _
      | refine LeO.ite ?_ ?_
      | refine LeO.bind ?_ (fun _ => ?_)
    · intro y0 y1 y2 y3 y4 y5 y6 y7 y8
      unfold oned_onedWriter_appendPattern.l1
      repeat' first
      | (with_reducible exact ih0 _ _ _ _ _ _ _)
      | (with_reducible exact ih1 _ _ _ _ _ _ _ _ _)
      | (with_reducible exact LeO.refl _)
      | (with_reducible exact LeO.none _)
      | (with_reducible refine LeO.ite ?_ ?_)
      | (with_reducible refine LeO.bind ?_ (fun _ => ?_))
      | exact ih0 _ _ _ _ _ _ _
      | exact ih1 _ _ _ _ _ _ _ _ _
      | exact LeO.none _
      | refine LeO.ite ?_ ?_
      | refine LeO.bind ?_ (fun _ => ?_)
theorem oned_onedWriter_appendPattern.mono : ∀ a0 a1 a2 a3 k, LeO (oned_onedWriter_appendPattern.f k a0 a1 a2 a3) (oned_onedWriter_appendPattern.f (k + 1) a0 a1 a2 a3) := by
  intro a0 a1 a2 a3 k
  obtain ⟨ih0, ih1⟩ := oned_onedWriter_appendPattern.mono_l k
  unfold oned_onedWriter_appendPattern.f
  repeat' first
      | (with_reducible exact ih0 _ _ _ _ _ _ _)
      | (with_reducible exact ih1 _ _ _ _ _ _ _ _ _)
      | (with_reducible exact LeO.refl _)
      | (with_reducible exact LeO.none _)
      | (with_reducible refine LeO.ite ?_ ?_)
      | (with_reducible refine LeO.bind ?_ (fun _ => ?_))
      | exact ih0 _ _ _ _ _ _ _
      | exact ih1 _ _ _ _ _ _ _ _ _
      | exact LeO.none _
      | refine LeO.ite ?_ ?_
      | refine LeO.bind ?_ (fun _ => ?_)
set_option maxHeartbeats 8000000 in
set_option maxRecDepth 100000 in
theorem oned_onedWriter_appendPattern.calls (k : Nat) (P0_ : Nat → Prop) (u9000_ : Value) (l0 : List Bool) (a1 : Int) (A2 : Option Addr) (c2 : Nat) (l2 : List Int) (a3 : Bool) (r1 : Int) (r2 : List Bool) (w0 w : World) (hB : Below w0.heap.size w0 w) (ho0 : Kd.R Kd.bool 4 w w0.heap.size P0_ u9000_ l0) (hr2 : ∀ W_, Kept w W_ (fun k_ => P0_ k_) → Kd.C (Kd.int .i64) W_ A2 l2.length l2) (hc2 : l2.length ≤ c2) (h : oned_onedWriter_appendPattern.f k l0 a1 l2 a3 = some (r1, r2)) :
    Calls Tryz.prog 145 #[u9000_, .int .i64 a1, .slice A2 l2.length c2, .bool a3] w fun e w' => e = .returned (.int .i64 r1) ∧ Kd.R Kd.bool 4 w' w0.heap.size (fun k_ => (P0_ k_ ∨ w.heap.size ≤ k_)) u9000_ r2 ∧ Below w0.heap.size w0 w' ∧ Kept w w' (fun k_ => P0_ k_) := by
  have HO0 := Aside0.mk (show Kd.R Kd.bool 4 w w0.heap.size (fun k_ => (P0_ k_ ∨ w.heap.size ≤ k_)) u9000_ l0 from Kd.R_mono ho0 (fun k_ hk => (.inl hk)))
  have HR2 := Aside0.mk hr2
  have HC2 := Aside0.mk hc2
  clear hr2 hc2
  have HK := Aside0.mk (Kept.refl w (fun k_ => P0_ k_))
  have HW0 := Aside0.mk hB.size
  have HB := Aside0.mk hB
  clear hB
  have H : (oned_onedWriter_appendPattern.l0 k l0 a1 a3 0 l2 (l2.length : Int) 0) = some (r1, r2) := h
  clear h
  have H' := Aside0.mk H
  clear H
  go_enter Tryz.func145, Tryz.ntmps145
  go_wp2
  go_loopg [1, 9, 10, 17] k (fun kq v1 v9 v10 v17 w' => ∃ (x0_1 : List Bool) (x1_1 : Int) (x9_1 : Bool) (x10_1 : Int) (x17_1 : Int), v1 = .int .i64 x1_1 ∧ v9 = .bool x9_1 ∧ v10 = .int .i64 x10_1 ∧ v17 = .int .i64 x17_1 ∧ Aside0 (oned_onedWriter_appendPattern.l0 kq x0_1 x1_1 x9_1 x10_1 l2 (l2.length : Int) x17_1 = some (r1, r2)) ∧ Aside0 (kq ≤ k) ∧ Aside0 (Kd.R Kd.bool 4 w' w0.heap.size (fun k_ => (P0_ k_ ∨ w.heap.size ≤ k_)) u9000_ x0_1) ∧ Aside0 (Kept w w' (fun k_ => P0_ k_)) ∧ Aside0 (Below w0.heap.size w0 w'))
  case atStart => exact ⟨(l0), (a1), (a3), (0), (0), (by first | rfl | (simp; done) | (simp [*]; done)), (by first | rfl | (simp; done) | (simp [*]; done)), (by first | rfl | (simp; done) | (simp [*]; done)), (by first | rfl | (simp; done) | (simp [*]; done)), H', ⟨Nat.le_refl _⟩, ⟨by (with_reducible repeat (first | apply Kd.R_alloc | apply Kd.R_drewN | apply Kd.R_drew)); exact HO0.out⟩, ⟨by repeat (first | (with_reducible first | exact HK.out | apply Kept.alloc | apply Kept.drewN | apply Kept.drew) | exact HK.out)⟩, ⟨by repeat (first | (with_reducible first | exact HB.out | apply below_alloc | apply pw_below_drewN | apply below_drew1) | exact HB.out)⟩⟩
  case round =>
    clear H'
    try clear c1
    try clear c2
    try clear p2
    obtain ⟨x0_1, x1_1, x9_1, x10_1, x17_1, rfl, rfl, rfl, rfl, HA, HK1, HO_0, HK, HB⟩ := hrel
    cases gk with
    | zero => exact absurd HA.out (by simp [oned_onedWriter_appendPattern.l0])
    | succ k1 =>
      have H := HA.out
      clear HA
      simp only [oned_onedWriter_appendPattern.l0] at H
      by_cases c5 : x17_1 < (l2.length : Int)
      · rw [if_pos c5] at H
        have c5b0 : decide (x17_1 < (l2.length : Int)) = true := decide_eq_true c5
        clear c5
        by_cases c6 : 0 ≤ x17_1
        · rw [if_pos c6] at H
          have c6b0 : decide (0 ≤ x17_1) = true := decide_eq_true c6
          clear c6
          by_cases c7 : x17_1 < (l2.length : Int)
          · rw [if_pos c7] at H
            have c7b0 : decide (x17_1 < (l2.length : Int)) = true := decide_eq_true c7
            clear c7
            have H' := Aside0.mk H
            clear H
            have p397 : 0 ≤ (x17_1 : Int) := of_decide_eq_true (by first | (with_reducible assumption) | assumption)
            have q397 : x17_1 < (l2.length : Int) := of_decide_eq_true (by first | (with_reducible assumption) | assumption)
            obtain ⟨ad397, e397, hx397_0⟩ := Kd.at_int (Kd.C_kept_now HR2.out HK.out) x17_1 p397 q397
            cases e397
            replace p397 := eq_true p397
            replace q397 := eq_true q397
            go_wp2
            go_loopg [1, 13] k1 (fun kq v1 v13 w' => ∃ (x0_2 : List Bool) (x1_2 : Int) (x13_2 : Int), v1 = .int .i64 x1_2 ∧ v13 = .int .i64 x13_2 ∧ Aside0 (oned_onedWriter_appendPattern.l1 kq x0_2 x1_2 x9_1 x10_1 (rd l2 x17_1) x13_2 l2 (l2.length : Int) x17_1 = some (r1, r2)) ∧ Aside0 (kq ≤ k1) ∧ Aside0 (Kd.R Kd.bool 4 w' w0.heap.size (fun k_ => (P0_ k_ ∨ w.heap.size ≤ k_)) u9000_ x0_2) ∧ Aside0 (Kept w w' (fun k_ => P0_ k_)) ∧ Aside0 (Below w0.heap.size w0 w'))
            case atStart => exact ⟨(x0_1), (x1_1), (0), (by first | rfl | (simp; done) | (simp [*]; done)), (by first | rfl | (simp; done) | (simp [*]; done)), H', ⟨Nat.le_refl _⟩, ⟨by (with_reducible repeat (first | apply Kd.R_alloc | apply Kd.R_drewN | apply Kd.R_drew)); exact HO_0.out⟩, ⟨by repeat (first | (with_reducible first | exact HK.out | apply Kept.alloc | apply Kept.drewN | apply Kept.drew) | exact HK.out)⟩, ⟨by repeat (first | (with_reducible first | exact HB.out | apply below_alloc | apply pw_below_drewN | apply below_drew1) | exact HB.out)⟩⟩
            case round =>
              clear H'
              try clear c1
              try clear c2
              try clear p2
              try clear p3
              try clear q3
              try clear hx3
              try clear c5
              try clear c5b0
              try clear c6
              try clear c6b0
              try clear c7
              try clear c7b0
              try clear hx397_0
              try clear p2
              try clear p397
              try clear q397
              obtain ⟨x0_2, x1_2, x13_2, rfl, rfl, HA, HK2, HO_0, HK, HB⟩ := hrel
              cases gk with
              | zero => exact absurd HA.out (by simp [oned_onedWriter_appendPattern.l1])
              | succ k2 =>
                have H := HA.out
                clear HA
                simp only [oned_onedWriter_appendPattern.l1] at H
                by_cases c8 : x13_2 < (rd l2 x17_1)
                · rw [if_pos c8] at H
                  have c8b0 : decide (x13_2 < (rd l2 x17_1)) = true := decide_eq_true c8
                  clear c8
                  by_cases c9 : 0 ≤ x1_2
                  · rw [if_pos c9] at H
                    have c9b0 : decide (0 ≤ x1_2) = true := decide_eq_true c9
                    clear c9
                    by_cases c10 : x1_2 < (x0_2.length : Int)
                    · rw [if_pos c10] at H
                      have c10b0 : decide (x1_2 < (x0_2.length : Int)) = true := decide_eq_true c10
                      clear c10
                      obtain ⟨y398, hy398⟩ : ∃ y_ : List Bool, y_ = (x0_2.set (x1_2 : Int).toNat x9_1) := ⟨_, rfl⟩
                      replace H : (oned_onedWriter_appendPattern.l1 k2 y398 (wrap64 (x1_2 + 1)) x9_1 x10_1 (rd l2 x17_1) (wrap64 (x13_2 + 1)) l2 (l2.length : Int) x17_1) = some (r1, r2) := by first | (rw [hy398]; with_reducible exact H) | (have H2_ := (Option.bind_some _ _).symm.trans H; rw [hy398]; with_reducible exact H2_) | (have H2_ := (Option.bind_some _ _).symm.trans H; with_reducible exact H2_) | with_reducible exact H | (rw [hy398]; exact H) | exact H
                      have Ny398 := Aside0.mk hy398
                      clear hy398
                      have H' := Aside0.mk H
                      clear H
                      have p11 : 0 ≤ (x1_2 : Int) := of_decide_eq_true (by first | (with_reducible assumption) | assumption)
                      have q11 : (x1_2 : Int) < ((x0_2.length : Int) : Int) := of_decide_eq_true (by first | (with_reducible assumption) | assumption)
                      obtain ⟨go11, co11, eo11, gb11, gl11, cl11, HG11⟩ := Kd.R_form HO_0.out (by omega)
                      (first | cases eo11 | (injection eo11 with ea_ en_ ec_; (first | subst ea_ | (injection ea_ with ea_; subst ea_)); subst ec_; clear en_))
                      have GB11 := Aside0.mk gb11
                      have GG11 := Aside0.mk HG11
                      clear gb11 gl11 HG11
                      have HMgo11 := Aside0.mk (show (P0_ go11 ∨ w.heap.size ≤ go11) from (HO_0.out.1 _ rfl))
                      obtain ⟨hx11_0, hf11_0⟩ := Kd.R_celln false HO_0.out (x1_2 : Int) p11 q11
                      replace p11 := eq_true p11
                      replace q11 := eq_true q11
                      have HP12 := Kd.R_putg HO_0.out (x1_2 : Int) x9_1
                      go_wp2_with (first | ((with_reducible refine gate_store (t := 4) (p := 29) rfl ?_); refine store_event (t := 4) (p := 29) (v := ?vo_w13) (w1 := (wr.setCell ⟨go11, (x1_2 : Int).toNat, none⟩ (.bool x9_1))) ?hg ?ho ?hn ?hr ?_; (case ho => rfl); (case hg => rfl); (case hn => rfl); (case hr => first | (go_simp; done) | (go_simp; rfl)); intro w13 hw; have hg : wr.grownBy w13 (some go11) := (by rw [hw]; exact HP12.2); have hp_ : Kd.R Kd.bool 4 w13 w0.heap.size (fun k_ => (P0_ k_ ∨ w.heap.size ≤ k_)) (.slice (some ⟨go11, 0, none⟩) x0_2.length co11) y398 := (by rw [hw, Ny398.out]; exact HP12.1); clear HP12; have n0_ := Aside0.mk (hp_); have n1_ := Aside0.mk ((by rw [hw]; exact below_set (HB.out) GB11.out : Below w0.heap.size w0 w13)); have n2_ := Aside0.mk (Kept.of_grown (S := (fun k_ => P0_ k_)) hg (by repeat (first | (with_reducible first | exact HK.out | apply Kept.alloc | apply Kept.drewN | apply Kept.drew) | exact HK.out)) (fun k_ e_ => (HO_0.out.1 k_ e_))); clear HO_0; clear HB; clear HK; have HO_0 := n0_; have HB := n1_; have HK := n2_; clear n0_ n1_ n2_; clear hg hw hp_))
                      go_roundg k2
                      case measure => have := HK1.out; have := HK2.out; omega
                      case rel => exact ⟨(y398), (wrap64 (x1_2 + 1)), (wrap64 (x13_2 + 1)), (by first | rfl | (simp; done) | (simp [*]; done)), (by first | rfl | (simp; done) | (simp [*]; done)), H', ⟨by have := HK1.out; have := HK2.out; omega⟩, ⟨by (with_reducible repeat (first | apply Kd.R_alloc | apply Kd.R_drewN | apply Kd.R_drew)); exact HO_0.out⟩, ⟨by repeat (first | (with_reducible first | exact HK.out | apply Kept.alloc | apply Kept.drewN | apply Kept.drew) | exact HK.out)⟩, ⟨by repeat (first | (with_reducible first | exact HB.out | apply below_alloc | apply pw_below_drewN | apply below_drew1) | exact HB.out)⟩⟩
                    · rw [if_neg c10] at H
                      exact absurd H (by simp)
                  · rw [if_neg c9] at H
                    exact absurd H (by simp)
                · rw [if_neg c8] at H
                  have c8b0 : decide (x13_2 < (rd l2 x17_1)) = false := decide_eq_false c8
                  clear c8
                  have H' := Aside0.mk H
                  clear H
                  go_wp2
                  go_roundg k2
                  case measure => have := HK1.out; have := HK2.out; omega
                  case rel => exact ⟨(x0_2), (x1_2), (!x9_1), (wrap64 (x10_1 + (rd l2 x17_1))), (wrap64 (x17_1 + 1)), (by first | rfl | (simp; done) | (simp [*]; done)), (by first | rfl | (simp; done) | (simp [*]; done)), (by first | rfl | (simp; done) | (simp [*]; done)), (by first | rfl | (simp; done) | (simp [*]; done)), H', ⟨by have := HK1.out; have := HK2.out; omega⟩, ⟨by (with_reducible repeat (first | apply Kd.R_alloc | apply Kd.R_drewN | apply Kd.R_drew)); exact HO_0.out⟩, ⟨by repeat (first | (with_reducible first | exact HK.out | apply Kept.alloc | apply Kept.drewN | apply Kept.drew) | exact HK.out)⟩, ⟨by repeat (first | (with_reducible first | exact HB.out | apply below_alloc | apply pw_below_drewN | apply below_drew1) | exact HB.out)⟩⟩
          · rw [if_neg c7] at H
            exact absurd H (by simp)
        · rw [if_neg c6] at H
          exact absurd H (by simp)
      · rw [if_neg c5] at H
        have c5b0 : decide (x17_1 < (l2.length : Int)) = false := decide_eq_false c5
        clear c5
        simp only [Option.some.injEq, Prod.mk.injEq] at H
        obtain ⟨rfl, rfl⟩ := H
        go_wp2
        go_ret
        exact ⟨by first | rfl | (simp [errW_none, errW_some] <;> rfl) | (simp [*, errW_none, errW_some] <;> rfl), by (with_reducible repeat (first | apply Kd.R_alloc | apply Kd.R_drewN | apply Kd.R_drew)); exact HO_0.out, by repeat (first | (with_reducible first | exact HB.out | apply below_alloc | apply pw_below_drewN | apply below_drew1) | exact HB.out), by repeat (first | (with_reducible first | exact HK.out | apply Kept.alloc | apply Kept.drewN | apply Kept.drew) | exact HK.out)⟩

-- NOT PRINTED: function 162 (oned_onedWriter_checkNumeric)

/-! ### oned_zzIndex: function 142 -/
def oned_zzIndex.l0 : Nat → ByteArray → ByteArray → Int → Option (Int)
  | 0, _, _, _ => none
  | k + 1, x0, x1, x5 => if (wrap64 (x5 + (x1.size : Int))) ≤ (x0.size : Int) then (if 0 ≤ x5 then (if x5 ≤ (wrap64 (x5 + (x1.size : Int))) then (if (x0.extract (x5 : Int).toNat ((wrap64 (x5 + (x1.size : Int))) : Int).toNat).toList = x1.toList then (some x5) else (oned_zzIndex.l0 k x0 x1 (wrap64 (x5 + 1)))) else (none)) else (none)) else (some (-1))
def oned_zzIndex.f (k : Nat) (a0 : ByteArray) (a1 : ByteArray) : Option (Int) := oned_zzIndex.l0 k a0 a1 0
theorem oned_zzIndex.mono_l : ∀ k, (∀ y0 y1 y2, LeO (oned_zzIndex.l0 k y0 y1 y2) (oned_zzIndex.l0 (k + 1) y0 y1 y2))
  | 0 => fun _ _ _ r h => by simp [oned_zzIndex.l0] at h
  | k + 1 => by
    have ih0 := oned_zzIndex.mono_l k
    · intro y0 y1 y2
      unfold oned_zzIndex.l0
      repeat' first
      | (with_reducible exact ih0 _ _ _)
      | (with_reducible exact LeO.refl _)
      | (with_reducible exact LeO.none _)
      | (with_reducible refine LeO.ite ?_ ?_)
      | (with_reducible refine LeO.bind ?_ (fun _ => ?_))
      | exact ih0 _ _ _
      | exact LeO.none _
      | refine LeO.ite ?_ ?_
      | refine LeO.bind ?_ (fun _ => ?_)
theorem oned_zzIndex.mono : ∀ a0 a1 k, LeO (oned_zzIndex.f k a0 a1) (oned_zzIndex.f (k + 1) a0 a1) := by
  intro a0 a1 k
  have ih0 := oned_zzIndex.mono_l k
  unfold oned_zzIndex.f
  repeat' first
      | (with_reducible exact ih0 _ _ _)
      | (with_reducible exact LeO.refl _)
      | (with_reducible exact LeO.none _)
      | (with_reducible refine LeO.ite ?_ ?_)
      | (with_reducible refine LeO.bind ?_ (fun _ => ?_))
      | exact ih0 _ _ _
      | exact LeO.none _
      | refine LeO.ite ?_ ?_
      | refine LeO.bind ?_ (fun _ => ?_)
set_option maxHeartbeats 8000000 in
set_option maxRecDepth 100000 in
theorem oned_zzIndex.calls (k : Nat) (a0 : ByteArray) (a1 : ByteArray) (r : Int) (w : World) (h : oned_zzIndex.f k a0 a1 = some r) :
    Calls Tryz.prog 142 #[.string a0, .string a1] w fun e w' => e = .returned (.int .i64 r) ∧ Drawn0 w w' := by
  have H : (oned_zzIndex.l0 k a0 a1 0) = some r := h
  clear h
  have H' := Aside0.mk H
  clear H
  go_enter Tryz.func142, Tryz.ntmps142
  go_wp2
  go_loopg [5] k (fun kq v5 w' => ∃ (x5_1 : Int), v5 = .int .i64 x5_1 ∧ Aside0 (oned_zzIndex.l0 kq a0 a1 x5_1 = some r) ∧ Aside0 (kq ≤ k) ∧ Drawn0 w w')
  case atStart => exact ⟨(0), (by first | rfl | (simp; done) | (simp [*]; done)), H', ⟨Nat.le_refl _⟩, by repeat (first | exact Drawn0.refl _ | apply Drawn0.step)⟩
  case round =>
    clear H'
    try clear c1
    try clear p2
    obtain ⟨x5_1, rfl, HA, HK1, ⟨m1, rfl⟩⟩ := hrel
    cases gk with
    | zero => exact absurd HA.out (by simp [oned_zzIndex.l0])
    | succ k1 =>
      have H := HA.out
      clear HA
      simp only [oned_zzIndex.l0] at H
      by_cases c3 : (wrap64 (x5_1 + (a1.size : Int))) ≤ (a0.size : Int)
      · rw [if_pos c3] at H
        have c3b0 : decide ((wrap64 (x5_1 + (a1.size : Int))) ≤ (a0.size : Int)) = true := decide_eq_true c3
        clear c3
        by_cases c4 : 0 ≤ x5_1
        · rw [if_pos c4] at H
          have c4b0 := eq_true c4
          have c4b1 : decide (0 ≤ x5_1) = true := decide_eq_true c4
          clear c4
          by_cases c5 : x5_1 ≤ (wrap64 (x5_1 + (a1.size : Int)))
          · rw [if_pos c5] at H
            have c5b0 := eq_true c5
            have c5b1 : decide (x5_1 ≤ (wrap64 (x5_1 + (a1.size : Int)))) = true := decide_eq_true c5
            have c6b0 := eq_true (of_decide_eq_true (by first | (with_reducible assumption) | assumption) : (wrap64 (x5_1 + (a1.size : Int))) ≤ (a0.size : Int))
            by_cases c7 : (a0.extract (x5_1 : Int).toNat ((wrap64 (x5_1 + (a1.size : Int))) : Int).toNat).toList = a1.toList
            · rw [if_pos c7] at H
              have c7b0 : ((a0.extract (x5_1 : Int).toNat ((wrap64 (x5_1 + (a1.size : Int))) : Int).toNat).toList == a1.toList) = true := beq_iff_eq.mpr c7
              have c7b1 : ((a0.extract (x5_1 : Int).toNat ((wrap64 (x5_1 + (a1.size : Int))) : Int).toNat).toList != a1.toList) = false := bne_eq_false_iff_eq.mpr c7
              clear c7
              obtain rfl := Option.some.inj H
              go_wp2
              go_ret
              exact ⟨by first | rfl | (simp; done) | (simp [*]; done), by repeat (first | exact Drawn0.refl _ | apply Drawn0.step)⟩
            · rw [if_neg c7] at H
              have c7b0 : ((a0.extract (x5_1 : Int).toNat ((wrap64 (x5_1 + (a1.size : Int))) : Int).toNat).toList == a1.toList) = false := beq_eq_false_iff_ne.mpr c7
              have c7b1 : ((a0.extract (x5_1 : Int).toNat ((wrap64 (x5_1 + (a1.size : Int))) : Int).toNat).toList != a1.toList) = true := bne_iff_ne.mpr c7
              have H' := Aside0.mk H
              clear H
              go_wp2
              go_roundg k1
              case measure => have := HK1.out; omega
              case rel => exact ⟨(wrap64 (x5_1 + 1)), (by first | rfl | (simp; done) | (simp [*]; done)), H', ⟨by have := HK1.out; omega⟩, by repeat (first | exact Drawn0.refl _ | apply Drawn0.step)⟩
          · rw [if_neg c5] at H
            exact absurd H (by simp)
        · rw [if_neg c4] at H
          exact absurd H (by simp)
      · rw [if_neg c3] at H
        have c3b0 : decide ((wrap64 (x5_1 + (a1.size : Int))) ≤ (a0.size : Int)) = false := decide_eq_false c3
        clear c3
        obtain rfl := Option.some.inj H
        go_wp2
        go_ret
        exact ⟨by first | rfl | (simp; done) | (simp [*]; done), by repeat (first | exact Drawn0.refl _ | apply Drawn0.step)⟩

-- NOT PRINTED: function 143 (oned_code39TryToConvertToExtendedMode)

/-! ### oned_code39ToIntArray: function 144 -/
def oned_code39ToIntArray.l0 : Nat → Int → List Int → Int → Option (List Int)
  | 0, _, _, _ => none
  | k + 1, x0, x1, x4 => if x4 < 9 then (if 0 ≤ (IntKind.u64.wrap (wrap64 (8 - x4))) then (if (Go.bits .and .i64 x0 (shl .i64 1 (IntKind.u64.wrap (wrap64 (8 - x4))))) = 0 then (if 0 ≤ x4 then (if x4 < (x1.length : Int) then (oned_code39ToIntArray.l0 k x0 (x1.set (x4 : Int).toNat 1) (wrap64 (x4 + 1))) else (none)) else (none)) else (if 0 ≤ x4 then (if x4 < (x1.length : Int) then (oned_code39ToIntArray.l0 k x0 (x1.set (x4 : Int).toNat 2) (wrap64 (x4 + 1))) else (none)) else (none))) else (none)) else (some x1)
def oned_code39ToIntArray.f (k : Nat) (a0 : Int) (l1 : List Int) : Option (List Int) := oned_code39ToIntArray.l0 k a0 l1 0
theorem oned_code39ToIntArray.mono_l : ∀ k, (∀ y0 y1 y2, LeO (oned_code39ToIntArray.l0 k y0 y1 y2) (oned_code39ToIntArray.l0 (k + 1) y0 y1 y2))
  | 0 => fun _ _ _ r h => by simp [oned_code39ToIntArray.l0] at h
  | k + 1 => by
    have ih0 := oned_code39ToIntArray.mono_l k
    · intro y0 y1 y2
      unfold oned_code39ToIntArray.l0
      repeat' first
      | (with_reducible exact ih0 _ _ _)
      | (with_reducible exact LeO.refl _)
      | (with_reducible exact LeO.none _)
      | (with_reducible refine LeO.ite ?_ ?_)
      | (with_reducible refine LeO.bind ?_ (fun _ => ?_))
      | exact ih0 _ _ _
      | exact LeO.none _
      | refine LeO.ite ?_ ?_
      | refine LeO.bind ?_ (fun _ => ?_)
theorem oned_code39ToIntArray.mono : ∀ a0 a1 k, LeO (oned_code39ToIntArray.f k a0 a1) (oned_code39ToIntArray.f (k + 1) a0 a1) := by
  intro a0 a1 k
  have ih0 := oned_code39ToIntArray.mono_l k
  unfold oned_code39ToIntArray.f
  repeat' first
      | (with_reducible exact ih0 _ _ _)
      | (with_reducible exact LeO.refl _)
      | (with_reducible exact LeO.none _)
      | (with_reducible refine LeO.ite ?_ ?_)
      | (with_reducible refine LeO.bind ?_ (fun _ => ?_))
      | exact ih0 _ _ _
      | exact LeO.none _
      | refine LeO.ite ?_ ?_
      | refine LeO.bind ?_ (fun _ => ?_)
set_option maxHeartbeats 8000000 in
set_option maxRecDepth 100000 in
theorem oned_code39ToIntArray.calls (k : Nat) (a0 : Int) (P1_ : Nat → Prop) (u9000_ : Value) (l1 : List Int) (r : List Int) (w0 w : World) (hB : Below w0.heap.size w0 w) (ho1 : Kd.R (Kd.int .i64) 3 w w0.heap.size P1_ u9000_ l1) (h : oned_code39ToIntArray.f k a0 l1 = some r) :
    Calls Tryz.prog 144 #[.int .i64 a0, u9000_] w fun e w' => e = .returned (.tuple #[]) ∧ Kd.R (Kd.int .i64) 3 w' w0.heap.size (fun k_ => (P1_ k_ ∨ w.heap.size ≤ k_)) u9000_ r ∧ Below w0.heap.size w0 w' ∧ Kept w w' (fun k_ => P1_ k_) := by
  have HO1 := Aside0.mk (show Kd.R (Kd.int .i64) 3 w w0.heap.size (fun k_ => (P1_ k_ ∨ w.heap.size ≤ k_)) u9000_ l1 from Kd.R_mono ho1 (fun k_ hk => (.inl hk)))
  have HK := Aside0.mk (Kept.refl w (fun k_ => P1_ k_))
  have HW0 := Aside0.mk hB.size
  have HB := Aside0.mk hB
  clear hB
  have H : (oned_code39ToIntArray.l0 k a0 l1 0) = some r := h
  clear h
  have H' := Aside0.mk H
  clear H
  go_enter Tryz.func144, Tryz.ntmps144
  go_wp2
  go_loopg [4] k (fun kq v4 w' => ∃ (x1_1 : List Int) (x4_1 : Int), v4 = .int .i64 x4_1 ∧ Aside0 (oned_code39ToIntArray.l0 kq a0 x1_1 x4_1 = some r) ∧ Aside0 (kq ≤ k) ∧ Aside0 (Kd.R (Kd.int .i64) 3 w' w0.heap.size (fun k_ => (P1_ k_ ∨ w.heap.size ≤ k_)) u9000_ x1_1) ∧ Aside0 (Kept w w' (fun k_ => P1_ k_)) ∧ Aside0 (Below w0.heap.size w0 w'))
  case atStart => exact ⟨(l1), (0), (by first | rfl | (simp; done) | (simp [*]; done)), H', ⟨Nat.le_refl _⟩, ⟨by (with_reducible repeat (first | apply Kd.R_alloc | apply Kd.R_drewN | apply Kd.R_drew)); exact HO1.out⟩, ⟨by repeat (first | (with_reducible first | exact HK.out | apply Kept.alloc | apply Kept.drewN | apply Kept.drew) | exact HK.out)⟩, ⟨by repeat (first | (with_reducible first | exact HB.out | apply below_alloc | apply pw_below_drewN | apply below_drew1) | exact HB.out)⟩⟩
  case round =>
    clear H'
    try clear c1
    try clear p2
    obtain ⟨x1_1, x4_1, rfl, HA, HK1, HO_1, HK, HB⟩ := hrel
    cases gk with
    | zero => exact absurd HA.out (by simp [oned_code39ToIntArray.l0])
    | succ k1 =>
      have H := HA.out
      clear HA
      simp only [oned_code39ToIntArray.l0] at H
      by_cases c3 : x4_1 < 9
      · rw [if_pos c3] at H
        have c3b0 : decide (x4_1 < 9) = true := decide_eq_true c3
        clear c3
        obtain ⟨ji4, hji4⟩ : ∃ j_ : Int, (IntKind.u64.wrap (wrap64 (8 - x4_1))) = j_ := ⟨_, rfl⟩
        replace H : (if 0 ≤ (ji4) then (if (Go.bits .and .i64 a0 (shl .i64 1 (ji4))) = 0 then (if 0 ≤ x4_1 then (if x4_1 < (x1_1.length : Int) then (oned_code39ToIntArray.l0 k1 a0 (x1_1.set (x4_1 : Int).toNat 1) (wrap64 (x4_1 + 1))) else (none)) else (none)) else (if 0 ≤ x4_1 then (if x4_1 < (x1_1.length : Int) then (oned_code39ToIntArray.l0 k1 a0 (x1_1.set (x4_1 : Int).toNat 2) (wrap64 (x4_1 + 1))) else (none)) else (none))) else (none)) = some r := by first | (rw [hji4] at H; exact H) | (simp only [hji4] at H ⊢; exact H)
        by_cases c5 : 0 ≤ (ji4)
        · rw [if_pos c5] at H
          have c5b0 := eq_true c5
          have c5b1 : decide (0 ≤ (ji4)) = true := decide_eq_true c5
          clear c5
          obtain ⟨ji6, hji6⟩ : ∃ j_ : Int, (shl .i64 1 (ji4)) = j_ := ⟨_, rfl⟩
          replace H : (if (Go.bits .and .i64 a0 (ji6)) = 0 then (if 0 ≤ x4_1 then (if x4_1 < (x1_1.length : Int) then (oned_code39ToIntArray.l0 k1 a0 (x1_1.set (x4_1 : Int).toNat 1) (wrap64 (x4_1 + 1))) else (none)) else (none)) else (if 0 ≤ x4_1 then (if x4_1 < (x1_1.length : Int) then (oned_code39ToIntArray.l0 k1 a0 (x1_1.set (x4_1 : Int).toNat 2) (wrap64 (x4_1 + 1))) else (none)) else (none))) = some r := by first | (rw [hji6] at H; exact H) | (simp only [hji6] at H ⊢; exact H)
          have hji6_ : (IntKind.i64.wrap (1 * 2 ^ min (ji4).toNat 64)) = ji6 := hji6
          have hji6z : (ji4) ≤ 64 → (IntKind.i64.wrap (1 * 2 ^ (ji4).toNat)) = ji6 := shl_small hji6
          have hji6u : (IntKind.i64.wrap (2 ^ min (ji4).toNat 64)) = ji6 := by have h_ := hji6_; rw [Int.one_mul] at h_; exact h_
          have hji6v : (ji4) ≤ 64 → (IntKind.i64.wrap (2 ^ (ji4).toNat)) = ji6 := fun hle_ => by have h_ := hji6z hle_; rw [Int.one_mul] at h_; exact h_
          have hji6y : (wrap64 (1 * 2 ^ min (ji4).toNat 64)) = ji6 := (i64_w _).symm.trans hji6_
          have hji6x : (ji4) ≤ 64 → (wrap64 (1 * 2 ^ (ji4).toNat)) = ji6 := fun h_ => (i64_w _).symm.trans (hji6z h_)
          by_cases c7 : (Go.bits .and .i64 a0 (ji6)) = 0
          · rw [if_pos c7] at H
            have c7b0 : ((Go.bits .and .i64 a0 (ji6)) == 0) = true := beq_iff_eq.mpr c7
            have c7b1 : ((Go.bits .and .i64 a0 (ji6)) != 0) = false := bne_eq_false_iff_eq.mpr c7
            clear c7
            by_cases c8 : 0 ≤ x4_1
            · rw [if_pos c8] at H
              have c8b0 : decide (0 ≤ x4_1) = true := decide_eq_true c8
              clear c8
              by_cases c9 : x4_1 < (x1_1.length : Int)
              · rw [if_pos c9] at H
                have c9b0 : decide (x4_1 < (x1_1.length : Int)) = true := decide_eq_true c9
                clear c9
                obtain ⟨y523, hy523⟩ : ∃ y_ : List Int, y_ = (x1_1.set (x4_1 : Int).toNat 1) := ⟨_, rfl⟩
                replace H : (oned_code39ToIntArray.l0 k1 a0 y523 (wrap64 (x4_1 + 1))) = some r := by first | (rw [hy523]; with_reducible exact H) | (have H2_ := (Option.bind_some _ _).symm.trans H; rw [hy523]; with_reducible exact H2_) | (have H2_ := (Option.bind_some _ _).symm.trans H; with_reducible exact H2_) | with_reducible exact H | (rw [hy523]; exact H) | exact H
                have Ny523 := Aside0.mk hy523
                clear hy523
                have H' := Aside0.mk H
                clear H
                have p10 : 0 ≤ (x4_1 : Int) := of_decide_eq_true (by first | (with_reducible assumption) | assumption)
                have q10 : (x4_1 : Int) < ((x1_1.length : Int) : Int) := of_decide_eq_true (by first | (with_reducible assumption) | assumption)
                obtain ⟨go10, co10, eo10, gb10, gl10, cl10, HG10⟩ := Kd.R_form HO_1.out (by omega)
                (first | cases eo10 | (injection eo10 with ea_ en_ ec_; (first | subst ea_ | (injection ea_ with ea_; subst ea_)); subst ec_; clear en_))
                have GB10 := Aside0.mk gb10
                have GG10 := Aside0.mk HG10
                clear gb10 gl10 HG10
                have HMgo10 := Aside0.mk (show (P1_ go10 ∨ w.heap.size ≤ go10) from (HO_1.out.1 _ rfl))
                obtain ⟨hx10_0, hf10_0⟩ := Kd.R_celln 0 HO_1.out (x4_1 : Int) p10 q10
                replace p10 := eq_true p10
                replace q10 := eq_true q10
                have HP11 := Kd.R_putg HO_1.out (x4_1 : Int) 1
                go_wp2_with (first | ((with_reducible refine gate_store (t := 3) (p := 20) rfl ?_); refine store_event (t := 3) (p := 20) (v := ?vo_w12) (w1 := (wr.setCell ⟨go10, (x4_1 : Int).toNat, none⟩ (.int .i64 1))) ?hg ?ho ?hn ?hr ?_; (case ho => rfl); (case hg => rfl); (case hn => rfl); (case hr => first | (go_simp; done) | (go_simp; rfl)); intro w12 hw; have hg : wr.grownBy w12 (some go10) := (by rw [hw]; exact HP11.2); have hp_ : Kd.R (Kd.int .i64) 3 w12 w0.heap.size (fun k_ => (P1_ k_ ∨ w.heap.size ≤ k_)) (.slice (some ⟨go10, 0, none⟩) x1_1.length co10) y523 := (by rw [hw, Ny523.out]; exact HP11.1); clear HP11; have n0_ := Aside0.mk (hp_); have n1_ := Aside0.mk ((by rw [hw]; exact below_set (HB.out) GB10.out : Below w0.heap.size w0 w12)); have n2_ := Aside0.mk (Kept.of_grown (S := (fun k_ => P1_ k_)) hg (by repeat (first | (with_reducible first | exact HK.out | apply Kept.alloc | apply Kept.drewN | apply Kept.drew) | exact HK.out)) (fun k_ e_ => (HO_1.out.1 k_ e_))); clear HO_1; clear HB; clear HK; have HO_1 := n0_; have HB := n1_; have HK := n2_; clear n0_ n1_ n2_; clear hg hw hp_))
                go_roundg k1
                case measure => have := HK1.out; omega
                case rel => exact ⟨(y523), (wrap64 (x4_1 + 1)), (by first | rfl | (simp; done) | (simp [*]; done)), H', ⟨by have := HK1.out; omega⟩, ⟨by (with_reducible repeat (first | apply Kd.R_alloc | apply Kd.R_drewN | apply Kd.R_drew)); exact HO_1.out⟩, ⟨by repeat (first | (with_reducible first | exact HK.out | apply Kept.alloc | apply Kept.drewN | apply Kept.drew) | exact HK.out)⟩, ⟨by repeat (first | (with_reducible first | exact HB.out | apply below_alloc | apply pw_below_drewN | apply below_drew1) | exact HB.out)⟩⟩
              · rw [if_neg c9] at H
                exact absurd H (by simp)
            · rw [if_neg c8] at H
              exact absurd H (by simp)
          · rw [if_neg c7] at H
            have c7b0 : ((Go.bits .and .i64 a0 (ji6)) == 0) = false := beq_eq_false_iff_ne.mpr c7
            have c7b1 : ((Go.bits .and .i64 a0 (ji6)) != 0) = true := bne_iff_ne.mpr c7
            by_cases c13 : 0 ≤ x4_1
            · rw [if_pos c13] at H
              have c13b0 : decide (0 ≤ x4_1) = true := decide_eq_true c13
              clear c13
              by_cases c14 : x4_1 < (x1_1.length : Int)
              · rw [if_pos c14] at H
                have c14b0 : decide (x4_1 < (x1_1.length : Int)) = true := decide_eq_true c14
                clear c14
                obtain ⟨y524, hy524⟩ : ∃ y_ : List Int, y_ = (x1_1.set (x4_1 : Int).toNat 2) := ⟨_, rfl⟩
                replace H : (oned_code39ToIntArray.l0 k1 a0 y524 (wrap64 (x4_1 + 1))) = some r := by first | (rw [hy524]; with_reducible exact H) | (have H2_ := (Option.bind_some _ _).symm.trans H; rw [hy524]; with_reducible exact H2_) | (have H2_ := (Option.bind_some _ _).symm.trans H; with_reducible exact H2_) | with_reducible exact H | (rw [hy524]; exact H) | exact H
                have Ny524 := Aside0.mk hy524
                clear hy524
                have H' := Aside0.mk H
                clear H
                have p15 : 0 ≤ (x4_1 : Int) := of_decide_eq_true (by first | (with_reducible assumption) | assumption)
                have q15 : (x4_1 : Int) < ((x1_1.length : Int) : Int) := of_decide_eq_true (by first | (with_reducible assumption) | assumption)
                obtain ⟨go15, co15, eo15, gb15, gl15, cl15, HG15⟩ := Kd.R_form HO_1.out (by omega)
                (first | cases eo15 | (injection eo15 with ea_ en_ ec_; (first | subst ea_ | (injection ea_ with ea_; subst ea_)); subst ec_; clear en_))
                have GB15 := Aside0.mk gb15
                have GG15 := Aside0.mk HG15
                clear gb15 gl15 HG15
                have HMgo15 := Aside0.mk (show (P1_ go15 ∨ w.heap.size ≤ go15) from (HO_1.out.1 _ rfl))
                obtain ⟨hx15_0, hf15_0⟩ := Kd.R_celln 0 HO_1.out (x4_1 : Int) p15 q15
                replace p15 := eq_true p15
                replace q15 := eq_true q15
                have HP16 := Kd.R_putg HO_1.out (x4_1 : Int) 2
                go_wp2_with (first | ((with_reducible refine gate_store (t := 3) (p := 23) rfl ?_); refine store_event (t := 3) (p := 23) (v := ?vo_w17) (w1 := (wr.setCell ⟨go15, (x4_1 : Int).toNat, none⟩ (.int .i64 2))) ?hg ?ho ?hn ?hr ?_; (case ho => rfl); (case hg => rfl); (case hn => rfl); (case hr => first | (go_simp; done) | (go_simp; rfl)); intro w17 hw; have hg : wr.grownBy w17 (some go15) := (by rw [hw]; exact HP16.2); have hp_ : Kd.R (Kd.int .i64) 3 w17 w0.heap.size (fun k_ => (P1_ k_ ∨ w.heap.size ≤ k_)) (.slice (some ⟨go15, 0, none⟩) x1_1.length co15) y524 := (by rw [hw, Ny524.out]; exact HP16.1); clear HP16; have n0_ := Aside0.mk (hp_); have n1_ := Aside0.mk ((by rw [hw]; exact below_set (HB.out) GB15.out : Below w0.heap.size w0 w17)); have n2_ := Aside0.mk (Kept.of_grown (S := (fun k_ => P1_ k_)) hg (by repeat (first | (with_reducible first | exact HK.out | apply Kept.alloc | apply Kept.drewN | apply Kept.drew) | exact HK.out)) (fun k_ e_ => (HO_1.out.1 k_ e_))); clear HO_1; clear HB; clear HK; have HO_1 := n0_; have HB := n1_; have HK := n2_; clear n0_ n1_ n2_; clear hg hw hp_))
                go_roundg k1
                case measure => have := HK1.out; omega
                case rel => exact ⟨(y524), (wrap64 (x4_1 + 1)), (by first | rfl | (simp; done) | (simp [*]; done)), H', ⟨by have := HK1.out; omega⟩, ⟨by (with_reducible repeat (first | apply Kd.R_alloc | apply Kd.R_drewN | apply Kd.R_drew)); exact HO_1.out⟩, ⟨by repeat (first | (with_reducible first | exact HK.out | apply Kept.alloc | apply Kept.drewN | apply Kept.drew) | exact HK.out)⟩, ⟨by repeat (first | (with_reducible first | exact HB.out | apply below_alloc | apply pw_below_drewN | apply below_drew1) | exact HB.out)⟩⟩
              · rw [if_neg c14] at H
                exact absurd H (by simp)
            · rw [if_neg c13] at H
              exact absurd H (by simp)
        · rw [if_neg c5] at H
          exact absurd H (by simp)
      · rw [if_neg c3] at H
        have c3b0 : decide (x4_1 < 9) = false := decide_eq_false c3
        clear c3
        obtain rfl := Option.some.inj H
        go_wp2
        first | go_end0 | ((try simp only [Exit.inBlock, Exit.then]); refine bodyPost_ret (results_none rfl _ _ _) rfl ?_)
        exact ⟨by first | rfl | (simp [errW_none, errW_some] <;> rfl) | (simp [*, errW_none, errW_some] <;> rfl), by (with_reducible repeat (first | apply Kd.R_alloc | apply Kd.R_drewN | apply Kd.R_drew)); exact HO_1.out, by repeat (first | (with_reducible first | exact HB.out | apply below_alloc | apply pw_below_drewN | apply below_drew1) | exact HB.out), by repeat (first | (with_reducible first | exact HK.out | apply Kept.alloc | apply Kept.drewN | apply Kept.drew) | exact HK.out)⟩

/-! ### oned_code39CharacterEncodings: function 146 -/
def oned_code39CharacterEncodings.f  : Option (List Int) := some (([52, 289, 97, 352, 49, 304, 112, 37, 292, 100, 265, 73, 328, 25, 280, 88, 13, 268, 76, 28, 259, 67, 322, 19, 274, 82, 7, 262, 70, 22, 385, 193, 448, 145, 400, 208, 133, 388, 196, 168, 162, 138, 42] : List Int))
set_option maxHeartbeats 8000000 in
set_option maxRecDepth 100000 in
theorem oned_code39CharacterEncodings.calls  (r : List Int) (w : World) (h : oned_code39CharacterEncodings.f  = some r) :
    Calls Tryz.prog 146 #[] w fun e w' => ∃ v0_ : Value, e = .returned (v0_) ∧ Kd.R (Kd.int .i64) 3 w' w.heap.size (fun _ => True) v0_ r ∧ Below w.heap.size w w' := by
  have HB := Aside0.mk (Below.refl w.heap.size w)
  have H : (some (([52, 289, 97, 352, 49, 304, 112, 37, 292, 100, 265, 73, 328, 25, 280, 88, 13, 268, 76, 28, 259, 67, 322, 19, 274, 82, 7, 262, 70, 22, 385, 193, 448, 145, 400, 208, 133, 388, 196, 168, 162, 138, 42] : List Int))) = some r := h
  clear h
  obtain ⟨y525, hy525⟩ : ∃ y_ : List Int, y_ = (([52, 289, 97, 352, 49, 304, 112, 37, 292, 100, 265, 73, 328, 25, 280, 88, 13, 268, 76, 28, 259, 67, 322, 19, 274, 82, 7, 262, 70, 22, 385, 193, 448, 145, 400, 208, 133, 388, 196, 168, 162, 138, 42] : List Int)) := ⟨_, rfl⟩
  replace H : (some y525) = some r := by first | (rw [hy525]; with_reducible exact H) | (have H2_ := (Option.bind_some _ _).symm.trans H; rw [hy525]; with_reducible exact H2_) | (have H2_ := (Option.bind_some _ _).symm.trans H; with_reducible exact H2_) | with_reducible exact H | (rw [hy525]; exact H) | exact H
  have Ny525 := Aside0.mk hy525
  clear hy525
  obtain rfl := Option.some.inj H
  go_enter Tryz.func146, Tryz.ntmps146
  go_wp2_with (first | ((with_reducible refine gate_dst (N := 1) rfl ?_); refine Kd.R_lit (Kd.int .i64) _ 3 ?hg (N := 1) ?hd (xs := ([52, 289, 97, 352, 49, 304, 112, 37, 292, 100, 265, 73, 328, 25, 280, 88, 13, 268, 76, 28, 259, 67, 322, 19, 274, 82, 7, 262, 70, 22, 385, 193, 448, 145, 400, 208, 133, 388, 196, 168, 162, 138, 42] : List Int)) (inner := [.int .i64 52, .int .i64 289, .int .i64 97, .int .i64 352, .int .i64 49, .int .i64 304, .int .i64 112, .int .i64 37, .int .i64 292, .int .i64 100, .int .i64 265, .int .i64 73, .int .i64 328, .int .i64 25, .int .i64 280, .int .i64 88, .int .i64 13, .int .i64 268, .int .i64 76, .int .i64 28, .int .i64 259, .int .i64 67, .int .i64 322, .int .i64 19, .int .i64 274, .int .i64 82, .int .i64 7, .int .i64 262, .int .i64 70, .int .i64 22, .int .i64 385, .int .i64 193, .int .i64 448, .int .i64 145, .int .i64 400, .int .i64 208, .int .i64 133, .int .i64 388, .int .i64 196, .int .i64 168, .int .i64 162, .int .i64 138, .int .i64 42]) (ok := fun _ => True) (okp := fun _ => True) ?hr ?hp (fun _ hk => hk) trivial (Below.refl _ _) (Nat.le_refl _) (by simp) ?_; (case hd => rfl); (case hg => rfl); (case hr => first | (go_simp; done) | (go_simp; rfl)); (case hp => exact (Reps.one (show Kd.M (Kd.int .i64) _ _ _ 52 [.int .i64 52] from rfl) (Reps.one (show Kd.M (Kd.int .i64) _ _ _ 289 [.int .i64 289] from rfl) (Reps.one (show Kd.M (Kd.int .i64) _ _ _ 97 [.int .i64 97] from rfl) (Reps.one (show Kd.M (Kd.int .i64) _ _ _ 352 [.int .i64 352] from rfl) (Reps.one (show Kd.M (Kd.int .i64) _ _ _ 49 [.int .i64 49] from rfl) (Reps.one (show Kd.M (Kd.int .i64) _ _ _ 304 [.int .i64 304] from rfl) (Reps.one (show Kd.M (Kd.int .i64) _ _ _ 112 [.int .i64 112] from rfl) (Reps.one (show Kd.M (Kd.int .i64) _ _ _ 37 [.int .i64 37] from rfl) (Reps.one (show Kd.M (Kd.int .i64) _ _ _ 292 [.int .i64 292] from rfl) (Reps.one (show Kd.M (Kd.int .i64) _ _ _ 100 [.int .i64 100] from rfl) (Reps.one (show Kd.M (Kd.int .i64) _ _ _ 265 [.int .i64 265] from rfl) (Reps.one (show Kd.M (Kd.int .i64) _ _ _ 73 [.int .i64 73] from rfl) (Reps.one (show Kd.M (Kd.int .i64) _ _ _ 328 [.int .i64 328] from rfl) (Reps.one (show Kd.M (Kd.int .i64) _ _ _ 25 [.int .i64 25] from rfl) (Reps.one (show Kd.M (Kd.int .i64) _ _ _ 280 [.int .i64 280] from rfl) (Reps.one (show Kd.M (Kd.int .i64) _ _ _ 88 [.int .i64 88] from rfl) (Reps.one (show Kd.M (Kd.int .i64) _ _ _ 13 [.int .i64 13] from rfl) (Reps.one (show Kd.M (Kd.int .i64) _ _ _ 268 [.int .i64 268] from rfl) (Reps.one (show Kd.M (Kd.int .i64) _ _ _ 76 [.int .i64 76] from rfl) (Reps.one (show Kd.M (Kd.int .i64) _ _ _ 28 [.int .i64 28] from rfl) (Reps.one (show Kd.M (Kd.int .i64) _ _ _ 259 [.int .i64 259] from rfl) (Reps.one (show Kd.M (Kd.int .i64) _ _ _ 67 [.int .i64 67] from rfl) (Reps.one (show Kd.M (Kd.int .i64) _ _ _ 322 [.int .i64 322] from rfl) (Reps.one (show Kd.M (Kd.int .i64) _ _ _ 19 [.int .i64 19] from rfl) (Reps.one (show Kd.M (Kd.int .i64) _ _ _ 274 [.int .i64 274] from rfl) (Reps.one (show Kd.M (Kd.int .i64) _ _ _ 82 [.int .i64 82] from rfl) (Reps.one (show Kd.M (Kd.int .i64) _ _ _ 7 [.int .i64 7] from rfl) (Reps.one (show Kd.M (Kd.int .i64) _ _ _ 262 [.int .i64 262] from rfl) (Reps.one (show Kd.M (Kd.int .i64) _ _ _ 70 [.int .i64 70] from rfl) (Reps.one (show Kd.M (Kd.int .i64) _ _ _ 22 [.int .i64 22] from rfl) (Reps.one (show Kd.M (Kd.int .i64) _ _ _ 385 [.int .i64 385] from rfl) (Reps.one (show Kd.M (Kd.int .i64) _ _ _ 193 [.int .i64 193] from rfl) (Reps.one (show Kd.M (Kd.int .i64) _ _ _ 448 [.int .i64 448] from rfl) (Reps.one (show Kd.M (Kd.int .i64) _ _ _ 145 [.int .i64 145] from rfl) (Reps.one (show Kd.M (Kd.int .i64) _ _ _ 400 [.int .i64 400] from rfl) (Reps.one (show Kd.M (Kd.int .i64) _ _ _ 208 [.int .i64 208] from rfl) (Reps.one (show Kd.M (Kd.int .i64) _ _ _ 133 [.int .i64 133] from rfl) (Reps.one (show Kd.M (Kd.int .i64) _ _ _ 388 [.int .i64 388] from rfl) (Reps.one (show Kd.M (Kd.int .i64) _ _ _ 196 [.int .i64 196] from rfl) (Reps.one (show Kd.M (Kd.int .i64) _ _ _ 168 [.int .i64 168] from rfl) (Reps.one (show Kd.M (Kd.int .i64) _ _ _ 162 [.int .i64 162] from rfl) (Reps.one (show Kd.M (Kd.int .i64) _ _ _ 138 [.int .i64 138] from rfl) (Reps.one (show Kd.M (Kd.int .i64) _ _ _ 42 [.int .i64 42] from rfl) (Reps.none _ _))))))))))))))))))))))))))))))))))))))))))))); intro v526 w1 ho2 hb hg_ hnew_; clear hg_ hnew_; (first | rw [← Ny525.out] at ho2 | (simp only [Int.reduceToNat] at ho2; rw [← Ny525.out] at ho2)); have n0_ := Aside0.mk (Kd.R_lower ho2 (below_size (by repeat (first | (with_reducible first | exact HB.out | apply below_alloc | apply pw_below_drewN | apply below_drew1) | exact HB.out)))); have n1_ := Aside0.mk (below_step (by repeat (first | (with_reducible first | exact HB.out | apply below_alloc | apply pw_below_drewN | apply below_drew1) | exact HB.out)) hb); clear HB; have HO527 := n0_; have HB := n1_; clear n0_ n1_; clear hb ho2))
  go_ret
  exact ⟨_, by first | rfl | (simp [errW_none, errW_some] <;> rfl) | (simp [*, errW_none, errW_some] <;> rfl), by (with_reducible repeat (first | apply Kd.R_alloc | apply Kd.R_drewN | apply Kd.R_drew)); exact HO527.out, by repeat (first | (with_reducible first | exact HB.out | apply below_alloc | apply pw_below_drewN | apply below_drew1) | exact HB.out)⟩

-- NOT PRINTED: function 140 (oned_code39Encoder_encodeWithHints)

-- NOT PRINTED: function 149 (oned_code93ConvertToExtended)

/-! ### oned_code93AppendPattern: function 150 -/
def oned_code93AppendPattern.l0 : Nat → List Bool → Int → Int → Int → Option (Int × List Bool)
  | 0, _, _, _, _ => none
  | k + 1, x0, x1, x2, x7 => if x7 < 9 then (if 0 ≤ (IntKind.u64.wrap (wrap64 (8 - x7))) then (if 0 ≤ (wrap64 (x1 + x7)) then (if (wrap64 (x1 + x7)) < (x0.length : Int) then (oned_code93AppendPattern.l0 k (x0.set ((wrap64 (x1 + x7)) : Int).toNat ((Go.bits .and .i64 x2 (shl .i64 1 (IntKind.u64.wrap (wrap64 (8 - x7))))) != 0)) x1 x2 (wrap64 (x7 + 1))) else (none)) else (none)) else (none)) else (some (9, x0))
def oned_code93AppendPattern.f (k : Nat) (l0 : List Bool) (a1 : Int) (a2 : Int) : Option (Int × List Bool) := oned_code93AppendPattern.l0 k l0 a1 a2 0
theorem oned_code93AppendPattern.mono_l : ∀ k, (∀ y0 y1 y2 y3, LeO (oned_code93AppendPattern.l0 k y0 y1 y2 y3) (oned_code93AppendPattern.l0 (k + 1) y0 y1 y2 y3))
  | 0 => fun _ _ _ _ r h => by simp [oned_code93AppendPattern.l0] at h
  | k + 1 => by
    have ih0 := oned_code93AppendPattern.mono_l k
    · intro y0 y1 y2 y3
      unfold oned_code93AppendPattern.l0
      repeat' first
      | (with_reducible exact ih0 _ _ _ _)
      | (with_reducible exact LeO.refl _)
      | (with_reducible exact LeO.none _)
      | (with_reducible refine LeO.ite ?_ ?_)
      | (with_reducible refine LeO.bind ?_ (fun _ => ?_))
      | exact ih0 _ _ _ _
      | exact LeO.none _
      | refine LeO.ite ?_ ?_
      | refine LeO.bind ?_ (fun _ => ?_)
theorem oned_code93AppendPattern.mono : ∀ a0 a1 a2 k, LeO (oned_code93AppendPattern.f k a0 a1 a2) (oned_code93AppendPattern.f (k + 1) a0 a1 a2) := by
  intro a0 a1 a2 k
  have ih0 := oned_code93AppendPattern.mono_l k
  unfold oned_code93AppendPattern.f
  repeat' first
      | (with_reducible exact ih0 _ _ _ _)
      | (with_reducible exact LeO.refl _)
      | (with_reducible exact LeO.none _)
      | (with_reducible refine LeO.ite ?_ ?_)
      | (with_reducible refine LeO.bind ?_ (fun _ => ?_))
      | exact ih0 _ _ _ _
      | exact LeO.none _
      | refine LeO.ite ?_ ?_
      | refine LeO.bind ?_ (fun _ => ?_)
set_option maxHeartbeats 8000000 in
set_option maxRecDepth 100000 in
theorem oned_code93AppendPattern.calls (k : Nat) (P0_ : Nat → Prop) (u9000_ : Value) (l0 : List Bool) (a1 : Int) (a2 : Int) (r1 : Int) (r2 : List Bool) (w0 w : World) (hB : Below w0.heap.size w0 w) (ho0 : Kd.R Kd.bool 4 w w0.heap.size P0_ u9000_ l0) (h : oned_code93AppendPattern.f k l0 a1 a2 = some (r1, r2)) :
    Calls Tryz.prog 150 #[u9000_, .int .i64 a1, .int .i64 a2] w fun e w' => e = .returned (.int .i64 r1) ∧ Kd.R Kd.bool 4 w' w0.heap.size (fun k_ => (P0_ k_ ∨ w.heap.size ≤ k_)) u9000_ r2 ∧ Below w0.heap.size w0 w' ∧ Kept w w' (fun k_ => P0_ k_) := by
  have HO0 := Aside0.mk (show Kd.R Kd.bool 4 w w0.heap.size (fun k_ => (P0_ k_ ∨ w.heap.size ≤ k_)) u9000_ l0 from Kd.R_mono ho0 (fun k_ hk => (.inl hk)))
  have HK := Aside0.mk (Kept.refl w (fun k_ => P0_ k_))
  have HW0 := Aside0.mk hB.size
  have HB := Aside0.mk hB
  clear hB
  have H : (oned_code93AppendPattern.l0 k l0 a1 a2 0) = some (r1, r2) := h
  clear h
  have H' := Aside0.mk H
  clear H
  go_enter Tryz.func150, Tryz.ntmps150
  go_wp2
  go_loopg [7] k (fun kq v7 w' => ∃ (x0_1 : List Bool) (x7_1 : Int), v7 = .int .i64 x7_1 ∧ Aside0 (oned_code93AppendPattern.l0 kq x0_1 a1 a2 x7_1 = some (r1, r2)) ∧ Aside0 (kq ≤ k) ∧ Aside0 (Kd.R Kd.bool 4 w' w0.heap.size (fun k_ => (P0_ k_ ∨ w.heap.size ≤ k_)) u9000_ x0_1) ∧ Aside0 (Kept w w' (fun k_ => P0_ k_)) ∧ Aside0 (Below w0.heap.size w0 w'))
  case atStart => exact ⟨(l0), (0), (by first | rfl | (simp; done) | (simp [*]; done)), H', ⟨Nat.le_refl _⟩, ⟨by (with_reducible repeat (first | apply Kd.R_alloc | apply Kd.R_drewN | apply Kd.R_drew)); exact HO0.out⟩, ⟨by repeat (first | (with_reducible first | exact HK.out | apply Kept.alloc | apply Kept.drewN | apply Kept.drew) | exact HK.out)⟩, ⟨by repeat (first | (with_reducible first | exact HB.out | apply below_alloc | apply pw_below_drewN | apply below_drew1) | exact HB.out)⟩⟩
  case round =>
    clear H'
    try clear c1
    try clear p2
    obtain ⟨x0_1, x7_1, rfl, HA, HK1, HO_0, HK, HB⟩ := hrel
    cases gk with
    | zero => exact absurd HA.out (by simp [oned_code93AppendPattern.l0])
    | succ k1 =>
      have H := HA.out
      clear HA
      simp only [oned_code93AppendPattern.l0] at H
      by_cases c4 : x7_1 < 9
      · rw [if_pos c4] at H
        have c4b0 : decide (x7_1 < 9) = true := decide_eq_true c4
        clear c4
        obtain ⟨ji5, hji5⟩ : ∃ j_ : Int, (IntKind.u64.wrap (wrap64 (8 - x7_1))) = j_ := ⟨_, rfl⟩
        replace H : (if 0 ≤ (ji5) then (if 0 ≤ (wrap64 (a1 + x7_1)) then (if (wrap64 (a1 + x7_1)) < (x0_1.length : Int) then (oned_code93AppendPattern.l0 k1 (x0_1.set ((wrap64 (a1 + x7_1)) : Int).toNat ((Go.bits .and .i64 a2 (shl .i64 1 (ji5))) != 0)) a1 a2 (wrap64 (x7_1 + 1))) else (none)) else (none)) else (none)) = some (r1, r2) := by first | (rw [hji5] at H; exact H) | (simp only [hji5] at H ⊢; exact H)
        by_cases c6 : 0 ≤ (ji5)
        · rw [if_pos c6] at H
          have c6b0 := eq_true c6
          have c6b1 : decide (0 ≤ (ji5)) = true := decide_eq_true c6
          clear c6
          obtain ⟨ji7, hji7⟩ : ∃ j_ : Int, (shl .i64 1 (ji5)) = j_ := ⟨_, rfl⟩
          replace H : (if 0 ≤ (wrap64 (a1 + x7_1)) then (if (wrap64 (a1 + x7_1)) < (x0_1.length : Int) then (oned_code93AppendPattern.l0 k1 (x0_1.set ((wrap64 (a1 + x7_1)) : Int).toNat ((Go.bits .and .i64 a2 (ji7)) != 0)) a1 a2 (wrap64 (x7_1 + 1))) else (none)) else (none)) = some (r1, r2) := by first | (rw [hji7] at H; exact H) | (simp only [hji7] at H ⊢; exact H)
          have hji7_ : (IntKind.i64.wrap (1 * 2 ^ min (ji5).toNat 64)) = ji7 := hji7
          have hji7z : (ji5) ≤ 64 → (IntKind.i64.wrap (1 * 2 ^ (ji5).toNat)) = ji7 := shl_small hji7
          have hji7u : (IntKind.i64.wrap (2 ^ min (ji5).toNat 64)) = ji7 := by have h_ := hji7_; rw [Int.one_mul] at h_; exact h_
          have hji7v : (ji5) ≤ 64 → (IntKind.i64.wrap (2 ^ (ji5).toNat)) = ji7 := fun hle_ => by have h_ := hji7z hle_; rw [Int.one_mul] at h_; exact h_
          have hji7y : (wrap64 (1 * 2 ^ min (ji5).toNat 64)) = ji7 := (i64_w _).symm.trans hji7_
          have hji7x : (ji5) ≤ 64 → (wrap64 (1 * 2 ^ (ji5).toNat)) = ji7 := fun h_ => (i64_w _).symm.trans (hji7z h_)
          obtain ⟨ji8, hji8⟩ : ∃ j_ : Int, (wrap64 (a1 + x7_1)) = j_ := ⟨_, rfl⟩
          replace H : (if 0 ≤ (ji8) then (if (ji8) < (x0_1.length : Int) then (oned_code93AppendPattern.l0 k1 (x0_1.set ((ji8) : Int).toNat ((Go.bits .and .i64 a2 (ji7)) != 0)) a1 a2 (wrap64 (x7_1 + 1))) else (none)) else (none)) = some (r1, r2) := by first | (rw [hji8] at H; exact H) | (simp only [hji8] at H ⊢; exact H)
          have hji8w : (IntKind.i64.wrap (a1 + x7_1)) = ji8 := (i64_w _).trans hji8
          by_cases c9 : 0 ≤ (ji8)
          · rw [if_pos c9] at H
            have c9b0 : decide (0 ≤ (ji8)) = true := decide_eq_true c9
            clear c9
            by_cases c10 : (ji8) < (x0_1.length : Int)
            · rw [if_pos c10] at H
              have c10b0 : decide ((ji8) < (x0_1.length : Int)) = true := decide_eq_true c10
              clear c10
              obtain ⟨y528, hy528⟩ : ∃ y_ : List Bool, y_ = (x0_1.set ((ji8) : Int).toNat ((Go.bits .and .i64 a2 (ji7)) != 0)) := ⟨_, rfl⟩
              replace H : (oned_code93AppendPattern.l0 k1 y528 a1 a2 (wrap64 (x7_1 + 1))) = some (r1, r2) := by first | (rw [hy528]; with_reducible exact H) | (have H2_ := (Option.bind_some _ _).symm.trans H; rw [hy528]; with_reducible exact H2_) | (have H2_ := (Option.bind_some _ _).symm.trans H; with_reducible exact H2_) | with_reducible exact H | (rw [hy528]; exact H) | exact H
              have Ny528 := Aside0.mk hy528
              clear hy528
              have H' := Aside0.mk H
              clear H
              have p11 : 0 ≤ ((ji8) : Int) := of_decide_eq_true (by first | (with_reducible assumption) | assumption)
              have q11 : ((ji8) : Int) < ((x0_1.length : Int) : Int) := of_decide_eq_true (by first | (with_reducible assumption) | assumption)
              obtain ⟨go11, co11, eo11, gb11, gl11, cl11, HG11⟩ := Kd.R_form HO_0.out (by omega)
              (first | cases eo11 | (injection eo11 with ea_ en_ ec_; (first | subst ea_ | (injection ea_ with ea_; subst ea_)); subst ec_; clear en_))
              have GB11 := Aside0.mk gb11
              have GG11 := Aside0.mk HG11
              clear gb11 gl11 HG11
              have HMgo11 := Aside0.mk (show (P0_ go11 ∨ w.heap.size ≤ go11) from (HO_0.out.1 _ rfl))
              obtain ⟨hx11_0, hf11_0⟩ := Kd.R_celln false HO_0.out ((ji8) : Int) p11 q11
              replace p11 := eq_true p11
              replace q11 := eq_true q11
              have HP12 := Kd.R_putg HO_0.out ((ji8) : Int) ((Go.bits .and .i64 a2 (ji7)) != 0)
              go_wp2_with (first | ((with_reducible refine gate_store (t := 4) (p := 25) rfl ?_); refine store_event (t := 4) (p := 25) (v := ?vo_w13) (w1 := (wr.setCell ⟨go11, ((ji8) : Int).toNat, none⟩ (.bool ((Go.bits .and .i64 a2 (ji7)) != 0)))) ?hg ?ho ?hn ?hr ?_; (case ho => rfl); (case hg => rfl); (case hn => rfl); (case hr => first | (go_simp; done) | (go_simp; rfl)); intro w13 hw; have hg : wr.grownBy w13 (some go11) := (by rw [hw]; exact HP12.2); have hp_ : Kd.R Kd.bool 4 w13 w0.heap.size (fun k_ => (P0_ k_ ∨ w.heap.size ≤ k_)) (.slice (some ⟨go11, 0, none⟩) x0_1.length co11) y528 := (by rw [hw, Ny528.out]; exact HP12.1); clear HP12; have n0_ := Aside0.mk (hp_); have n1_ := Aside0.mk ((by rw [hw]; exact below_set (HB.out) GB11.out : Below w0.heap.size w0 w13)); have n2_ := Aside0.mk (Kept.of_grown (S := (fun k_ => P0_ k_)) hg (by repeat (first | (with_reducible first | exact HK.out | apply Kept.alloc | apply Kept.drewN | apply Kept.drew) | exact HK.out)) (fun k_ e_ => (HO_0.out.1 k_ e_))); clear HO_0; clear HB; clear HK; have HO_0 := n0_; have HB := n1_; have HK := n2_; clear n0_ n1_ n2_; clear hg hw hp_))
              go_roundg k1
              case measure => have := HK1.out; omega
              case rel => exact ⟨(y528), (wrap64 (x7_1 + 1)), (by first | rfl | (simp; done) | (simp [*]; done)), H', ⟨by have := HK1.out; omega⟩, ⟨by (with_reducible repeat (first | apply Kd.R_alloc | apply Kd.R_drewN | apply Kd.R_drew)); exact HO_0.out⟩, ⟨by repeat (first | (with_reducible first | exact HK.out | apply Kept.alloc | apply Kept.drewN | apply Kept.drew) | exact HK.out)⟩, ⟨by repeat (first | (with_reducible first | exact HB.out | apply below_alloc | apply pw_below_drewN | apply below_drew1) | exact HB.out)⟩⟩
            · rw [if_neg c10] at H
              exact absurd H (by simp)
          · rw [if_neg c9] at H
            exact absurd H (by simp)
        · rw [if_neg c6] at H
          exact absurd H (by simp)
      · rw [if_neg c4] at H
        have c4b0 : decide (x7_1 < 9) = false := decide_eq_false c4
        clear c4
        simp only [Option.some.injEq, Prod.mk.injEq] at H
        obtain ⟨rfl, rfl⟩ := H
        go_wp2
        go_ret
        exact ⟨by first | rfl | (simp [errW_none, errW_some] <;> rfl) | (simp [*, errW_none, errW_some] <;> rfl), by (with_reducible repeat (first | apply Kd.R_alloc | apply Kd.R_drewN | apply Kd.R_drew)); exact HO_0.out, by repeat (first | (with_reducible first | exact HB.out | apply below_alloc | apply pw_below_drewN | apply below_drew1) | exact HB.out), by repeat (first | (with_reducible first | exact HK.out | apply Kept.alloc | apply Kept.drewN | apply Kept.drew) | exact HK.out)⟩

/-! ### oned_code93CharacterEncodings: function 151 -/
def oned_code93CharacterEncodings.f  : Option (List Int) := some (([276, 328, 324, 322, 296, 292, 290, 336, 274, 266, 424, 420, 418, 404, 402, 394, 360, 356, 354, 308, 282, 344, 332, 326, 300, 278, 436, 434, 428, 422, 406, 410, 364, 358, 310, 314, 302, 468, 466, 458, 366, 374, 430, 294, 474, 470, 306, 350] : List Int))
set_option maxHeartbeats 8000000 in
set_option maxRecDepth 100000 in
theorem oned_code93CharacterEncodings.calls  (r : List Int) (w : World) (h : oned_code93CharacterEncodings.f  = some r) :
    Calls Tryz.prog 151 #[] w fun e w' => ∃ v0_ : Value, e = .returned (v0_) ∧ Kd.R (Kd.int .i64) 3 w' w.heap.size (fun _ => True) v0_ r ∧ Below w.heap.size w w' := by
  have HB := Aside0.mk (Below.refl w.heap.size w)
  have H : (some (([276, 328, 324, 322, 296, 292, 290, 336, 274, 266, 424, 420, 418, 404, 402, 394, 360, 356, 354, 308, 282, 344, 332, 326, 300, 278, 436, 434, 428, 422, 406, 410, 364, 358, 310, 314, 302, 468, 466, 458, 366, 374, 430, 294, 474, 470, 306, 350] : List Int))) = some r := h
  clear h
  obtain ⟨y529, hy529⟩ : ∃ y_ : List Int, y_ = (([276, 328, 324, 322, 296, 292, 290, 336, 274, 266, 424, 420, 418, 404, 402, 394, 360, 356, 354, 308, 282, 344, 332, 326, 300, 278, 436, 434, 428, 422, 406, 410, 364, 358, 310, 314, 302, 468, 466, 458, 366, 374, 430, 294, 474, 470, 306, 350] : List Int)) := ⟨_, rfl⟩
  replace H : (some y529) = some r := by first | (rw [hy529]; with_reducible exact H) | (have H2_ := (Option.bind_some _ _).symm.trans H; rw [hy529]; with_reducible exact H2_) | (have H2_ := (Option.bind_some _ _).symm.trans H; with_reducible exact H2_) | with_reducible exact H | (rw [hy529]; exact H) | exact H
  have Ny529 := Aside0.mk hy529
  clear hy529
  obtain rfl := Option.some.inj H
  go_enter Tryz.func151, Tryz.ntmps151
  go_wp2_with (first | ((with_reducible refine gate_dst (N := 1) rfl ?_); refine Kd.R_lit (Kd.int .i64) _ 3 ?hg (N := 1) ?hd (xs := ([276, 328, 324, 322, 296, 292, 290, 336, 274, 266, 424, 420, 418, 404, 402, 394, 360, 356, 354, 308, 282, 344, 332, 326, 300, 278, 436, 434, 428, 422, 406, 410, 364, 358, 310, 314, 302, 468, 466, 458, 366, 374, 430, 294, 474, 470, 306, 350] : List Int)) (inner := [.int .i64 276, .int .i64 328, .int .i64 324, .int .i64 322, .int .i64 296, .int .i64 292, .int .i64 290, .int .i64 336, .int .i64 274, .int .i64 266, .int .i64 424, .int .i64 420, .int .i64 418, .int .i64 404, .int .i64 402, .int .i64 394, .int .i64 360, .int .i64 356, .int .i64 354, .int .i64 308, .int .i64 282, .int .i64 344, .int .i64 332, .int .i64 326, .int .i64 300, .int .i64 278, .int .i64 436, .int .i64 434, .int .i64 428, .int .i64 422, .int .i64 406, .int .i64 410, .int .i64 364, .int .i64 358, .int .i64 310, .int .i64 314, .int .i64 302, .int .i64 468, .int .i64 466, .int .i64 458, .int .i64 366, .int .i64 374, .int .i64 430, .int .i64 294, .int .i64 474, .int .i64 470, .int .i64 306, .int .i64 350]) (ok := fun _ => True) (okp := fun _ => True) ?hr ?hp (fun _ hk => hk) trivial (Below.refl _ _) (Nat.le_refl _) (by simp) ?_; (case hd => rfl); (case hg => rfl); (case hr => first | (go_simp; done) | (go_simp; rfl)); (case hp => exact (Reps.one (show Kd.M (Kd.int .i64) _ _ _ 276 [.int .i64 276] from rfl) (Reps.one (show Kd.M (Kd.int .i64) _ _ _ 328 [.int .i64 328] from rfl) (Reps.one (show Kd.M (Kd.int .i64) _ _ _ 324 [.int .i64 324] from rfl) (Reps.one (show Kd.M (Kd.int .i64) _ _ _ 322 [.int .i64 322] from rfl) (Reps.one (show Kd.M (Kd.int .i64) _ _ _ 296 [.int .i64 296] from rfl) (Reps.one (show Kd.M (Kd.int .i64) _ _ _ 292 [.int .i64 292] from rfl) (Reps.one (show Kd.M (Kd.int .i64) _ _ _ 290 [.int .i64 290] from rfl) (Reps.one (show Kd.M (Kd.int .i64) _ _ _ 336 [.int .i64 336] from rfl) (Reps.one (show Kd.M (Kd.int .i64) _ _ _ 274 [.int .i64 274] from rfl) (Reps.one (show Kd.M (Kd.int .i64) _ _ _ 266 [.int .i64 266] from rfl) (Reps.one (show Kd.M (Kd.int .i64) _ _ _ 424 [.int .i64 424] from rfl) (Reps.one (show Kd.M (Kd.int .i64) _ _ _ 420 [.int .i64 420] from rfl) (Reps.one (show Kd.M (Kd.int .i64) _ _ _ 418 [.int .i64 418] from rfl) (Reps.one (show Kd.M (Kd.int .i64) _ _ _ 404 [.int .i64 404] from rfl) (Reps.one (show Kd.M (Kd.int .i64) _ _ _ 402 [.int .i64 402] from rfl) (Reps.one (show Kd.M (Kd.int .i64) _ _ _ 394 [.int .i64 394] from rfl) (Reps.one (show Kd.M (Kd.int .i64) _ _ _ 360 [.int .i64 360] from rfl) (Reps.one (show Kd.M (Kd.int .i64) _ _ _ 356 [.int .i64 356] from rfl) (Reps.one (show Kd.M (Kd.int .i64) _ _ _ 354 [.int .i64 354] from rfl) (Reps.one (show Kd.M (Kd.int .i64) _ _ _ 308 [.int .i64 308] from rfl) (Reps.one (show Kd.M (Kd.int .i64) _ _ _ 282 [.int .i64 282] from rfl) (Reps.one (show Kd.M (Kd.int .i64) _ _ _ 344 [.int .i64 344] from rfl) (Reps.one (show Kd.M (Kd.int .i64) _ _ _ 332 [.int .i64 332] from rfl) (Reps.one (show Kd.M (Kd.int .i64) _ _ _ 326 [.int .i64 326] from rfl) (Reps.one (show Kd.M (Kd.int .i64) _ _ _ 300 [.int .i64 300] from rfl) (Reps.one (show Kd.M (Kd.int .i64) _ _ _ 278 [.int .i64 278] from rfl) (Reps.one (show Kd.M (Kd.int .i64) _ _ _ 436 [.int .i64 436] from rfl) (Reps.one (show Kd.M (Kd.int .i64) _ _ _ 434 [.int .i64 434] from rfl) (Reps.one (show Kd.M (Kd.int .i64) _ _ _ 428 [.int .i64 428] from rfl) (Reps.one (show Kd.M (Kd.int .i64) _ _ _ 422 [.int .i64 422] from rfl) (Reps.one (show Kd.M (Kd.int .i64) _ _ _ 406 [.int .i64 406] from rfl) (Reps.one (show Kd.M (Kd.int .i64) _ _ _ 410 [.int .i64 410] from rfl) (Reps.one (show Kd.M (Kd.int .i64) _ _ _ 364 [.int .i64 364] from rfl) (Reps.one (show Kd.M (Kd.int .i64) _ _ _ 358 [.int .i64 358] from rfl) (Reps.one (show Kd.M (Kd.int .i64) _ _ _ 310 [.int .i64 310] from rfl) (Reps.one (show Kd.M (Kd.int .i64) _ _ _ 314 [.int .i64 314] from rfl) (Reps.one (show Kd.M (Kd.int .i64) _ _ _ 302 [.int .i64 302] from rfl) (Reps.one (show Kd.M (Kd.int .i64) _ _ _ 468 [.int .i64 468] from rfl) (Reps.one (show Kd.M (Kd.int .i64) _ _ _ 466 [.int .i64 466] from rfl) (Reps.one (show Kd.M (Kd.int .i64) _ _ _ 458 [.int .i64 458] from rfl) (Reps.one (show Kd.M (Kd.int .i64) _ _ _ 366 [.int .i64 366] from rfl) (Reps.one (show Kd.M (Kd.int .i64) _ _ _ 374 [.int .i64 374] from rfl) (Reps.one (show Kd.M (Kd.int .i64) _ _ _ 430 [.int .i64 430] from rfl) (Reps.one (show Kd.M (Kd.int .i64) _ _ _ 294 [.int .i64 294] from rfl) (Reps.one (show Kd.M (Kd.int .i64) _ _ _ 474 [.int .i64 474] from rfl) (Reps.one (show Kd.M (Kd.int .i64) _ _ _ 470 [.int .i64 470] from rfl) (Reps.one (show Kd.M (Kd.int .i64) _ _ _ 306 [.int .i64 306] from rfl) (Reps.one (show Kd.M (Kd.int .i64) _ _ _ 350 [.int .i64 350] from rfl) (Reps.none _ _)))))))))))))))))))))))))))))))))))))))))))))))))); intro v530 w1 ho2 hb hg_ hnew_; clear hg_ hnew_; (first | rw [← Ny529.out] at ho2 | (simp only [Int.reduceToNat] at ho2; rw [← Ny529.out] at ho2)); have n0_ := Aside0.mk (Kd.R_lower ho2 (below_size (by repeat (first | (with_reducible first | exact HB.out | apply below_alloc | apply pw_below_drewN | apply below_drew1) | exact HB.out)))); have n1_ := Aside0.mk (below_step (by repeat (first | (with_reducible first | exact HB.out | apply below_alloc | apply pw_below_drewN | apply below_drew1) | exact HB.out)) hb); clear HB; have HO531 := n0_; have HB := n1_; clear n0_ n1_; clear hb ho2))
  go_ret
  exact ⟨_, by first | rfl | (simp [errW_none, errW_some] <;> rfl) | (simp [*, errW_none, errW_some] <;> rfl), by (with_reducible repeat (first | apply Kd.R_alloc | apply Kd.R_drewN | apply Kd.R_drew)); exact HO531.out, by repeat (first | (with_reducible first | exact HB.out | apply below_alloc | apply pw_below_drewN | apply below_drew1) | exact HB.out)⟩

-- NOT PRINTED: function 152 (oned_code93ComputeChecksumIndex)

-- NOT PRINTED: function 147 (oned_code93Encoder_encodeWithHints)

/-! ### spec_ODBars: function 38 -/
mutual
def spec_ODBars.l0 : Nat → List Int → List Bool → Int → Option (List Bool)
  | 0, _, _, _ => none
  | k + 1, x0, x3, x4 => if x4 < (x0.length : Int) then (spec_ODBars.l1 k x0 x3 x4 0) else (some x3)
def spec_ODBars.l1 : Nat → List Int → List Bool → Int → Int → Option (List Bool)
  | 0, _, _, _, _ => none
  | k + 1, x0, x3, x4, x5 => if 0 ≤ x4 then (if x4 < (x0.length : Int) then (if x5 < (rd x0 x4) then (if x3.length < 140737488355328 then (spec_ODBars.l1 k x0 (x3 ++ [((Int.tmod x4 2) == 0)]) x4 (wrap64 (x5 + 1))) else (none)) else (spec_ODBars.l0 k x0 x3 (wrap64 (x4 + 1)))) else (none)) else (none)
end
def spec_ODBars.f (k : Nat) (l0 : List Int) : Option (List Bool) := spec_ODBars.l0 k l0 ([] : List Bool) 0
theorem spec_ODBars.mono_l : ∀ k, (∀ y0 y1 y2, LeO (spec_ODBars.l0 k y0 y1 y2) (spec_ODBars.l0 (k + 1) y0 y1 y2)) ∧ (∀ y0 y1 y2 y3, LeO (spec_ODBars.l1 k y0 y1 y2 y3) (spec_ODBars.l1 (k + 1) y0 y1 y2 y3))
  | 0 => ⟨fun _ _ _ r h => by simp [spec_ODBars.l0] at h, fun _ _ _ _ r h => by simp [spec_ODBars.l1] at h⟩
  | k + 1 => by
    obtain ⟨ih0, ih1⟩ := spec_ODBars.mono_l k
    refine ⟨?_, ?_⟩
    · intro y0 y1 y2
      unfold spec_ODBars.l0
      repeat' first
      | (with_reducible exact ih0 _ _ _)
      | (with_reducible exact ih1 _ _ _ _)
      | (with_reducible exact LeO.refl _)
      | (with_reducible exact LeO.none _)
      | (with_reducible refine LeO.ite ?_ ?_)
      | (with_reducible refine LeO.bind ?_ (fun _ => ?_))
      | exact ih0 _ _ _
      | exact ih1 _ _ _ _
      | exact LeO.none _
      | refine LeO.ite ?_ ?_
      | refine LeO.bind ?_ (fun _ => ?_)
    · intro y0 y1 y2 y3
      unfold spec_ODBars.l1
      repeat' first
      | (with_reducible exact ih0 _ _ _)
      | (with_reducible exact ih1 _ _ _ _)
      | (with_reducible exact LeO.refl _)
      | (with_reducible exact LeO.none _)
      | (with_reducible refine LeO.ite ?_ ?_)
      | (with_reducible refine LeO.bind ?_ (fun _ => ?_))
      | exact ih0 _ _ _
      | exact ih1 _ _ _ _
      | exact LeO.none _
      | refine LeO.ite ?_ ?_
      | refine LeO.bind ?_ (fun _ => ?_)
theorem spec_ODBars.mono : ∀ a0 k, LeO (spec_ODBars.f k a0) (spec_ODBars.f (k + 1) a0) := by
  intro a0 k
  obtain ⟨ih0, ih1⟩ := spec_ODBars.mono_l k
  unfold spec_ODBars.f
  repeat' first
      | (with_reducible exact ih0 _ _ _)
      | (with_reducible exact ih1 _ _ _ _)
      | (with_reducible exact LeO.refl _)
      | (with_reducible exact LeO.none _)
      | (with_reducible refine LeO.ite ?_ ?_)
      | (with_reducible refine LeO.bind ?_ (fun _ => ?_))
      | exact ih0 _ _ _
      | exact ih1 _ _ _ _
      | exact LeO.none _
      | refine LeO.ite ?_ ?_
      | refine LeO.bind ?_ (fun _ => ?_)
set_option maxHeartbeats 8000000 in
set_option maxRecDepth 100000 in
theorem spec_ODBars.calls (k : Nat) (A0 : Option Addr) (c0 : Nat) (l0 : List Int) (r : List Bool) (w : World) (hr0 : Kd.C (Kd.int .i64) w A0 l0.length l0) (hc0 : l0.length ≤ c0) (h : spec_ODBars.f k l0 = some r) :
    Calls Tryz.prog 38 #[.slice A0 l0.length c0] w fun e w' => ∃ v0_ : Value, e = .returned (v0_) ∧ Kd.R Kd.bool 4 w' w.heap.size (fun _ => True) v0_ r ∧ Below w.heap.size w w' := by
  have HR0 := Aside0.mk hr0
  have HC0 := Aside0.mk hc0
  clear hr0 hc0
  have HB := Aside0.mk (Below.refl w.heap.size w)
  have H : (spec_ODBars.l0 k l0 ([] : List Bool) 0) = some r := h
  clear h
  have H' := Aside0.mk H
  clear H
  go_enter Tryz.func38, Tryz.ntmps38
  go_wp2
  go_loopg [3, 4] k (fun kq v3 v4 w' => ∃ (x3_1 : List Bool) (x4_1 : Int), v4 = .int .i64 x4_1 ∧ Aside0 (spec_ODBars.l0 kq l0 x3_1 x4_1 = some r) ∧ Aside0 (kq ≤ k) ∧ Aside0 (Kd.R Kd.bool 4 w' w.heap.size (fun _ => True) v3 x3_1) ∧ Aside0 (Below w.heap.size w w'))
  case atStart => exact ⟨(([] : List Bool)), (0), (by first | rfl | (simp; done) | (simp [*]; done)), H', ⟨Nat.le_refl _⟩, ⟨by first | exact Kd.R_nil _ _ _ _ _ | exact Kd.N_nil _ _ _ _ _ | exact Kd.V_nil _ _ _ _ _ | exact Kd.Q_nil _ _ _ _ _ | exact Kd.S_nil _ _ _ _ _⟩, ⟨by repeat (first | (with_reducible first | exact HB.out | apply below_alloc | apply pw_below_drewN | apply below_drew1) | exact HB.out)⟩⟩
  case round =>
    clear H'
    obtain ⟨x3_1, x4_1, rfl, HA, HK1, HO_3, HB⟩ := hrel
    cases gk with
    | zero => exact absurd HA.out (by simp [spec_ODBars.l0])
    | succ k1 =>
      have H := HA.out
      clear HA
      simp only [spec_ODBars.l0] at H
      by_cases c2 : x4_1 < (l0.length : Int)
      · rw [if_pos c2] at H
        have c2b0 : decide (x4_1 < (l0.length : Int)) = true := decide_eq_true c2
        clear c2
        have H' := Aside0.mk H
        clear H
        go_wp2
        go_loopg [3, 5] k1 (fun kq v3 v5 w' => ∃ (x3_2 : List Bool) (x5_2 : Int), v5 = .int .i64 x5_2 ∧ Aside0 (spec_ODBars.l1 kq l0 x3_2 x4_1 x5_2 = some r) ∧ Aside0 (kq ≤ k1) ∧ Aside0 (Kd.R Kd.bool 4 w' w.heap.size (fun _ => True) v3 x3_2) ∧ Aside0 (Below w.heap.size w w'))
        case atStart => exact ⟨(x3_1), (0), (by first | rfl | (simp; done) | (simp [*]; done)), H', ⟨Nat.le_refl _⟩, ⟨by (with_reducible repeat (first | apply Kd.R_alloc | apply Kd.R_drewN | apply Kd.R_drew)); exact HO_3.out⟩, ⟨by repeat (first | (with_reducible first | exact HB.out | apply below_alloc | apply pw_below_drewN | apply below_drew1) | exact HB.out)⟩⟩
        case round =>
          clear H'
          try clear c2
          try clear c2b0
          try clear p2
          obtain ⟨x3_2, x5_2, rfl, HA, HK2, HO_3, HB⟩ := hrel
          cases gk with
          | zero => exact absurd HA.out (by simp [spec_ODBars.l1])
          | succ k2 =>
            have H := HA.out
            clear HA
            simp only [spec_ODBars.l1] at H
            by_cases c3 : 0 ≤ x4_1
            · rw [if_pos c3] at H
              have c3b0 : decide (0 ≤ x4_1) = true := decide_eq_true c3
              clear c3
              by_cases c4 : x4_1 < (l0.length : Int)
              · rw [if_pos c4] at H
                have c4b0 : decide (x4_1 < (l0.length : Int)) = true := decide_eq_true c4
                clear c4
                by_cases c5 : x5_2 < (rd l0 x4_1)
                · rw [if_pos c5] at H
                  have c5b0 : decide (x5_2 < (rd l0 x4_1)) = true := decide_eq_true c5
                  clear c5
                  by_cases c6 : x3_2.length < 140737488355328
                  · rw [if_pos c6] at H
                    have LMc6 := Aside0.mk c6
                    clear c6
                    obtain ⟨y204, hy204⟩ : ∃ y_ : List Bool, y_ = (x3_2 ++ [((Int.tmod x4_1 2) == 0)]) := ⟨_, rfl⟩
                    replace H : (spec_ODBars.l1 k2 l0 y204 x4_1 (wrap64 (x5_2 + 1))) = some r := by first | (rw [hy204]; with_reducible exact H) | (have H2_ := (Option.bind_some _ _).symm.trans H; rw [hy204]; with_reducible exact H2_) | (have H2_ := (Option.bind_some _ _).symm.trans H; with_reducible exact H2_) | with_reducible exact H | (rw [hy204]; exact H) | exact H
                    have Ny204 := Aside0.mk hy204
                    clear hy204
                    have H' := Aside0.mk H
                    clear H
                    have p203 : 0 ≤ (x4_1 : Int) := of_decide_eq_true (by first | (with_reducible assumption) | assumption)
                    have q203 : x4_1 < (l0.length : Int) := of_decide_eq_true (by first | (with_reducible assumption) | assumption)
                    obtain ⟨ad203, e203, hx203_0⟩ := Kd.at_int HR0.out x4_1 p203 q203
                    cases e203
                    replace hx203_0 := (HB.out.cell (World.block_lt_of_cell? w _ hx203_0)).trans hx203_0
                    replace p203 := eq_true p203
                    replace q203 := eq_true q203
                    go_wp2_with (first | ((with_reducible refine gate_builtin (b := .append) (xs := #[.tmp 20, .tmp 24]) rfl ?_); at_builtin; refine Kd.R_append Kd.bool (w0 := w) w.heap.size rfl (.tmp 20) (.tmp 24) 27 4 (.bool false) 1 rfl Tryz.underlying27 info4 rfl (by decide) (by omega) u3 x3_2 ((Int.tmod x4_1 2) == 0) [.bool ((Int.tmod x4_1 2) == 0)] (fun _ => True) (fun _ => False) rfl rfl ?aP (fun _ hk => hk.elim) ?aF ?aO ?aB ?aS ?aL ?_; (case aP => exact rfl); (case aB => exact (by repeat (first | (with_reducible first | exact HB.out | apply below_alloc | apply pw_below_drewN | apply below_drew1) | exact HB.out))); (case aF => exact (fun _ _ => trivial)); (case aO => exact (by (with_reducible repeat (first | apply Kd.R_alloc | apply Kd.R_drewN | apply Kd.R_drew)); exact HO_3.out)); (case aS => exact (below_size (by repeat (first | (with_reducible first | exact HB.out | apply below_alloc | apply pw_below_drewN | apply below_drew1) | exact HB.out)))); (case aL => have := LMc6.out; omega); intro v205 w7 ho hb hg hat; rw [← Ny204.out] at ho; have n0_ := Aside0.mk (hb); have n1_ := Aside0.mk (ho); clear HB; clear HO_3; have HB := n0_; have HO206 := n1_; clear n0_ n1_; clear ho hb hg hat))
                    go_roundg k2
                    case measure => have := HK1.out; have := HK2.out; omega
                    case rel => exact ⟨(y204), (wrap64 (x5_2 + 1)), (by first | rfl | (simp; done) | (simp [*]; done)), H', ⟨by have := HK1.out; have := HK2.out; omega⟩, ⟨by (with_reducible repeat (first | apply Kd.R_alloc | apply Kd.R_drewN | apply Kd.R_drew)); exact HO206.out⟩, ⟨by repeat (first | (with_reducible first | exact HB.out | apply below_alloc | apply pw_below_drewN | apply below_drew1) | exact HB.out)⟩⟩
                  · rw [if_neg c6] at H
                    exact absurd H (by simp)
                · rw [if_neg c5] at H
                  have c5b0 : decide (x5_2 < (rd l0 x4_1)) = false := decide_eq_false c5
                  clear c5
                  have H' := Aside0.mk H
                  clear H
                  have p203 : 0 ≤ (x4_1 : Int) := of_decide_eq_true (by first | (with_reducible assumption) | assumption)
                  have q203 : x4_1 < (l0.length : Int) := of_decide_eq_true (by first | (with_reducible assumption) | assumption)
                  obtain ⟨ad203, e203, hx203_0⟩ := Kd.at_int HR0.out x4_1 p203 q203
                  cases e203
                  replace hx203_0 := (HB.out.cell (World.block_lt_of_cell? w _ hx203_0)).trans hx203_0
                  replace p203 := eq_true p203
                  replace q203 := eq_true q203
                  go_wp2
                  go_roundg k2
                  case measure => have := HK1.out; have := HK2.out; omega
                  case rel => exact ⟨(x3_2), (wrap64 (x4_1 + 1)), (by first | rfl | (simp; done) | (simp [*]; done)), H', ⟨by have := HK1.out; have := HK2.out; omega⟩, ⟨by (with_reducible repeat (first | apply Kd.R_alloc | apply Kd.R_drewN | apply Kd.R_drew)); exact HO_3.out⟩, ⟨by repeat (first | (with_reducible first | exact HB.out | apply below_alloc | apply pw_below_drewN | apply below_drew1) | exact HB.out)⟩⟩
              · rw [if_neg c4] at H
                exact absurd H (by simp)
            · rw [if_neg c3] at H
              exact absurd H (by simp)
      · rw [if_neg c2] at H
        have c2b0 : decide (x4_1 < (l0.length : Int)) = false := decide_eq_false c2
        clear c2
        obtain rfl := Option.some.inj H
        go_wp2
        go_ret
        exact ⟨_, by first | rfl | (simp [errW_none, errW_some] <;> rfl) | (simp [*, errW_none, errW_some] <;> rfl), by (with_reducible repeat (first | apply Kd.R_alloc | apply Kd.R_drewN | apply Kd.R_drew)); exact HO_3.out, by repeat (first | (with_reducible first | exact HB.out | apply below_alloc | apply pw_below_drewN | apply below_drew1) | exact HB.out)⟩

/-! ### spec_odAt: function 32 -/
def spec_odAt.l0 : Nat → ByteArray → Int → Int → Option (Int)
  | 0, _, _, _ => none
  | k + 1, x0, x1, x5 => if x5 < (x0.size : Int) then (if 0 ≤ x5 then (if (bt x0 x5) = x1 then (some x5) else (spec_odAt.l0 k x0 x1 (wrap64 (x5 + 1)))) else (none)) else (some (-1))
def spec_odAt.f (k : Nat) (a0 : ByteArray) (a1 : Int) : Option (Int) := spec_odAt.l0 k a0 a1 0
theorem spec_odAt.mono_l : ∀ k, (∀ y0 y1 y2, LeO (spec_odAt.l0 k y0 y1 y2) (spec_odAt.l0 (k + 1) y0 y1 y2))
  | 0 => fun _ _ _ r h => by simp [spec_odAt.l0] at h
  | k + 1 => by
    have ih0 := spec_odAt.mono_l k
    · intro y0 y1 y2
      unfold spec_odAt.l0
      repeat' first
      | (with_reducible exact ih0 _ _ _)
      | (with_reducible exact LeO.refl _)
      | (with_reducible exact LeO.none _)
      | (with_reducible refine LeO.ite ?_ ?_)
      | (with_reducible refine LeO.bind ?_ (fun _ => ?_))
      | exact ih0 _ _ _
      | exact LeO.none _
      | refine LeO.ite ?_ ?_
      | refine LeO.bind ?_ (fun _ => ?_)
theorem spec_odAt.mono : ∀ a0 a1 k, LeO (spec_odAt.f k a0 a1) (spec_odAt.f (k + 1) a0 a1) := by
  intro a0 a1 k
  have ih0 := spec_odAt.mono_l k
  unfold spec_odAt.f
  repeat' first
      | (with_reducible exact ih0 _ _ _)
      | (with_reducible exact LeO.refl _)
      | (with_reducible exact LeO.none _)
      | (with_reducible refine LeO.ite ?_ ?_)
      | (with_reducible refine LeO.bind ?_ (fun _ => ?_))
      | exact ih0 _ _ _
      | exact LeO.none _
      | refine LeO.ite ?_ ?_
      | refine LeO.bind ?_ (fun _ => ?_)
set_option maxHeartbeats 8000000 in
set_option maxRecDepth 100000 in
theorem spec_odAt.calls (k : Nat) (a0 : ByteArray) (a1 : Int) (r : Int) (w : World) (h : spec_odAt.f k a0 a1 = some r) :
    Calls Tryz.prog 32 #[.string a0, .int .u8 a1] w fun e w' => e = .returned (.int .i64 r) ∧ Drawn0 w w' := by
  have H : (spec_odAt.l0 k a0 a1 0) = some r := h
  clear h
  have H' := Aside0.mk H
  clear H
  go_enter Tryz.func32, Tryz.ntmps32
  go_wp2
  go_loopg [5] k (fun kq v5 w' => ∃ (x5_1 : Int), v5 = .int .i64 x5_1 ∧ Aside0 (spec_odAt.l0 kq a0 a1 x5_1 = some r) ∧ Aside0 (kq ≤ k) ∧ Drawn0 w w')
  case atStart => exact ⟨(0), (by first | rfl | (simp; done) | (simp [*]; done)), H', ⟨Nat.le_refl _⟩, by repeat (first | exact Drawn0.refl _ | apply Drawn0.step)⟩
  case round =>
    clear H'
    try clear p2
    obtain ⟨x5_1, rfl, HA, HK1, ⟨m1, rfl⟩⟩ := hrel
    cases gk with
    | zero => exact absurd HA.out (by simp [spec_odAt.l0])
    | succ k1 =>
      have H := HA.out
      clear HA
      simp only [spec_odAt.l0] at H
      by_cases c3 : x5_1 < (a0.size : Int)
      · rw [if_pos c3] at H
        have c3b0 : decide (x5_1 < (a0.size : Int)) = true := decide_eq_true c3
        clear c3
        by_cases c4 : 0 ≤ x5_1
        · rw [if_pos c4] at H
          have c4b0 : decide (0 ≤ x5_1) = true := decide_eq_true c4
          clear c4
          by_cases c6 : (bt a0 x5_1) = a1
          · rw [if_pos c6] at H
            have c6b0 : ((bt a0 x5_1) == a1) = true := beq_iff_eq.mpr c6
            have c6b1 : ((bt a0 x5_1) != a1) = false := bne_eq_false_iff_eq.mpr c6
            clear c6
            obtain rfl := Option.some.inj H
            have p5 : 0 ≤ (x5_1 : Int) := of_decide_eq_true (by first | (with_reducible assumption) | assumption)
            have q5 : x5_1 < (a0.size : Int) := of_decide_eq_true (by first | (with_reducible assumption) | assumption)
            have hx5 := bt_at a0 x5_1
            replace p5 := eq_true p5
            replace q5 := eq_true q5
            go_wp2
            go_ret
            exact ⟨by first | rfl | (simp; done) | (simp [*]; done), by repeat (first | exact Drawn0.refl _ | apply Drawn0.step)⟩
          · rw [if_neg c6] at H
            have c6b0 : ((bt a0 x5_1) == a1) = false := beq_eq_false_iff_ne.mpr c6
            have c6b1 : ((bt a0 x5_1) != a1) = true := bne_iff_ne.mpr c6
            have H' := Aside0.mk H
            clear H
            have p5 : 0 ≤ (x5_1 : Int) := of_decide_eq_true (by first | (with_reducible assumption) | assumption)
            have q5 : x5_1 < (a0.size : Int) := of_decide_eq_true (by first | (with_reducible assumption) | assumption)
            have hx5 := bt_at a0 x5_1
            replace p5 := eq_true p5
            replace q5 := eq_true q5
            go_wp2
            go_roundg k1
            case measure => have := HK1.out; omega
            case rel => exact ⟨(wrap64 (x5_1 + 1)), (by first | rfl | (simp; done) | (simp [*]; done)), H', ⟨by have := HK1.out; omega⟩, by repeat (first | exact Drawn0.refl _ | apply Drawn0.step)⟩
        · rw [if_neg c4] at H
          exact absurd H (by simp)
      · rw [if_neg c3] at H
        have c3b0 : decide (x5_1 < (a0.size : Int)) = false := decide_eq_false c3
        clear c3
        obtain rfl := Option.some.inj H
        go_wp2
        go_ret
        exact ⟨by first | rfl | (simp; done) | (simp [*]; done), by repeat (first | exact Drawn0.refl _ | apply Drawn0.step)⟩

/-! ### spec_odElements: function 36 -/
def spec_odElements.l0 : Nat → Int → Int → Int → List Int → Int → Option (List Int)
  | 0, _, _, _, _, _ => none
  | k + 1, x0, x1, x2, x7, x8 => if x8 < x1 then (if 0 ≤ x8 then (if x8 < (x7.length : Int) then ((some (x7.set (x8 : Int).toNat 1 : List Int)).bind fun y197 => (if 0 ≤ (IntKind.u64.wrap (wrap64 ((wrap64 (x1 - 1)) - x8))) then (if (Go.bits .and .i64 (shr .i64 x0 (IntKind.u64.wrap (wrap64 ((wrap64 (x1 - 1)) - x8)))) 1) = 1 then (spec_odElements.l0 k x0 x1 x2 (y197.set (x8 : Int).toNat x2) (wrap64 (x8 + 1))) else (spec_odElements.l0 k x0 x1 x2 y197 (wrap64 (x8 + 1)))) else (none))) else (none)) else (none)) else (some x7)
def spec_odElements.f (k : Nat) (a0 : Int) (a1 : Int) (a2 : Int) : Option (List Int) := if 0 ≤ a1 then (if (a1 : Int).toNat ≤ 35184372088832 then (spec_odElements.l0 k a0 a1 a2 (List.replicate (a1 : Int).toNat 0) 0) else (none)) else (none)
theorem spec_odElements.mono_l : ∀ k, (∀ y0 y1 y2 y3 y4, LeO (spec_odElements.l0 k y0 y1 y2 y3 y4) (spec_odElements.l0 (k + 1) y0 y1 y2 y3 y4))
  | 0 => fun _ _ _ _ _ r h => by simp [spec_odElements.l0] at h
  | k + 1 => by
    have ih0 := spec_odElements.mono_l k
    · intro y0 y1 y2 y3 y4
      unfold spec_odElements.l0
      repeat' first
      | (with_reducible exact ih0 _ _ _ _ _)
      | (with_reducible exact LeO.refl _)
      | (with_reducible exact LeO.none _)
      | (with_reducible refine LeO.ite ?_ ?_)
      | (with_reducible refine LeO.bind ?_ (fun _ => ?_))
      | exact ih0 _ _ _ _ _
      | exact LeO.none _
      | refine LeO.ite ?_ ?_
      | refine LeO.bind ?_ (fun _ => ?_)
theorem spec_odElements.mono : ∀ a0 a1 a2 k, LeO (spec_odElements.f k a0 a1 a2) (spec_odElements.f (k + 1) a0 a1 a2) := by
  intro a0 a1 a2 k
  have ih0 := spec_odElements.mono_l k
  unfold spec_odElements.f
  repeat' first
      | (with_reducible exact ih0 _ _ _ _ _)
      | (with_reducible exact LeO.refl _)
      | (with_reducible exact LeO.none _)
      | (with_reducible refine LeO.ite ?_ ?_)
      | (with_reducible refine LeO.bind ?_ (fun _ => ?_))
      | exact ih0 _ _ _ _ _
      | exact LeO.none _
      | refine LeO.ite ?_ ?_
      | refine LeO.bind ?_ (fun _ => ?_)
set_option maxHeartbeats 8000000 in
set_option maxRecDepth 100000 in
theorem spec_odElements.calls (k : Nat) (a0 : Int) (a1 : Int) (a2 : Int) (r : List Int) (w : World) (h : spec_odElements.f k a0 a1 a2 = some r) :
    Calls Tryz.prog 36 #[.int .i64 a0, .int .i64 a1, .int .i64 a2] w fun e w' => ∃ v0_ : Value, e = .returned (v0_) ∧ Kd.R (Kd.int .i64) 3 w' w.heap.size (fun _ => True) v0_ r ∧ Below w.heap.size w w' := by
  have HB := Aside0.mk (Below.refl w.heap.size w)
  have H : (if 0 ≤ a1 then (if (a1 : Int).toNat ≤ 35184372088832 then (spec_odElements.l0 k a0 a1 a2 (List.replicate (a1 : Int).toNat 0) 0) else (none)) else (none)) = some r := h
  clear h
  by_cases c4 : 0 ≤ a1
  · rw [if_pos c4] at H
    have c4b0 := eq_true c4
    have c4b1 : decide (0 ≤ a1) = true := decide_eq_true c4
    clear c4
    by_cases c5 : (a1 : Int).toNat ≤ 35184372088832
    · rw [if_pos c5] at H
      have c5b0 := eq_true c5
      have c5b1 : decide ((a1 : Int).toNat ≤ 35184372088832) = true := decide_eq_true c5
      clear c5
      obtain ⟨y194, hy194⟩ : ∃ y_ : List Int, y_ = (List.replicate (a1 : Int).toNat 0) := ⟨_, rfl⟩
      replace H : (spec_odElements.l0 k a0 a1 a2 y194 0) = some r := by first | (rw [hy194]; with_reducible exact H) | (have H2_ := (Option.bind_some _ _).symm.trans H; rw [hy194]; with_reducible exact H2_) | (have H2_ := (Option.bind_some _ _).symm.trans H; with_reducible exact H2_) | with_reducible exact H | (rw [hy194]; exact H) | exact H
      have Ny194 := Aside0.mk hy194
      clear hy194
      have H' := Aside0.mk H
      clear H
      go_enter Tryz.func36, Tryz.ntmps36
      go_wp2_with (first | ((with_reducible refine gate_dst (N := 10) rfl ?_); refine Kd.R_make (Kd.int .i64) _ 3 rfl (N := 10) rfl 40 _ _ rfl a1 rfl rfl Tryz.underlying40 (.int .i64 0) 8 info3 rfl (by decide) (by omega) 0 (ok := fun _ => True) (okp := fun _ => True) rfl (fun _ hk => hk) trivial (of_decide_eq_true (by first | (with_reducible assumption) | assumption)) (Nat.le_trans (Nat.mul_le_mul_right _ (of_decide_eq_true (by first | (with_reducible assumption) | assumption) : a1.toNat ≤ 35184372088832)) (by omega)) (Below.refl _ _) (Nat.le_refl _) ?_; intro v195 w6 ho7 hb hg_ hnew_; clear hg_ hnew_; (first | rw [← Ny194.out] at ho7 | (simp only [Int.reduceToNat] at ho7; rw [← Ny194.out] at ho7)); have n0_ := Aside0.mk (Kd.R_lower ho7 (below_size (by repeat (first | (with_reducible first | exact HB.out | apply below_alloc | apply pw_below_drewN | apply below_drew1) | exact HB.out)))); have n1_ := Aside0.mk (below_step (by repeat (first | (with_reducible first | exact HB.out | apply below_alloc | apply pw_below_drewN | apply below_drew1) | exact HB.out)) hb); clear HB; have HO196 := n0_; have HB := n1_; clear n0_ n1_; clear hb ho7))
      go_loopg [8] k (fun kq v8 w' => ∃ (x7_1 : List Int) (x8_1 : Int), v8 = .int .i64 x8_1 ∧ Aside0 (spec_odElements.l0 kq a0 a1 a2 x7_1 x8_1 = some r) ∧ Aside0 (kq ≤ k) ∧ Aside0 (Kd.R (Kd.int .i64) 3 w' w.heap.size (fun _ => True) v195 x7_1) ∧ Aside0 (Below w.heap.size w w'))
      case atStart => exact ⟨(y194), (0), (by first | rfl | (simp; done) | (simp [*]; done)), H', ⟨Nat.le_refl _⟩, ⟨by (with_reducible repeat (first | apply Kd.R_alloc | apply Kd.R_drewN | apply Kd.R_drew)); exact HO196.out⟩, ⟨by repeat (first | (with_reducible first | exact HB.out | apply below_alloc | apply pw_below_drewN | apply below_drew1) | exact HB.out)⟩⟩
      case round =>
        clear H'
        try clear p2
        try clear c3
        try clear c4
        try clear c4b0
        try clear c4b1
        try clear c5
        try clear c5b0
        try clear c5b1
        obtain ⟨x7_1, x8_1, rfl, HA, HK1, HO_7, HB⟩ := hrel
        cases gk with
        | zero => exact absurd HA.out (by simp [spec_odElements.l0])
        | succ k1 =>
          have H := HA.out
          clear HA
          simp only [spec_odElements.l0] at H
          by_cases c8 : x8_1 < a1
          · rw [if_pos c8] at H
            have c8b0 : decide (x8_1 < a1) = true := decide_eq_true c8
            clear c8
            by_cases c9 : 0 ≤ x8_1
            · rw [if_pos c9] at H
              have c9b0 : decide (0 ≤ x8_1) = true := decide_eq_true c9
              clear c9
              by_cases c10 : x8_1 < (x7_1.length : Int)
              · rw [if_pos c10] at H
                have c10b0 : decide (x8_1 < (x7_1.length : Int)) = true := decide_eq_true c10
                clear c10
                obtain ⟨y197, hy197⟩ : ∃ y_ : List Int, y_ = (x7_1.set (x8_1 : Int).toNat 1) := ⟨_, rfl⟩
                replace H : (if 0 ≤ (IntKind.u64.wrap (wrap64 ((wrap64 (a1 - 1)) - x8_1))) then (if (Go.bits .and .i64 (shr .i64 a0 (IntKind.u64.wrap (wrap64 ((wrap64 (a1 - 1)) - x8_1)))) 1) = 1 then (spec_odElements.l0 k1 a0 a1 a2 (y197.set (x8_1 : Int).toNat a2) (wrap64 (x8_1 + 1))) else (spec_odElements.l0 k1 a0 a1 a2 y197 (wrap64 (x8_1 + 1)))) else (none)) = some r := by first | (rw [hy197]; with_reducible exact H) | (have H2_ := (Option.bind_some _ _).symm.trans H; rw [hy197]; with_reducible exact H2_) | (have H2_ := (Option.bind_some _ _).symm.trans H; with_reducible exact H2_) | with_reducible exact H | (rw [hy197]; exact H) | exact H
                have Ny197 := Aside0.mk hy197
                clear hy197
                obtain ⟨ji12, hji12⟩ : ∃ j_ : Int, (IntKind.u64.wrap (wrap64 ((wrap64 (a1 - 1)) - x8_1))) = j_ := ⟨_, rfl⟩
                replace H : (if 0 ≤ (ji12) then (if (Go.bits .and .i64 (shr .i64 a0 (ji12)) 1) = 1 then (spec_odElements.l0 k1 a0 a1 a2 (y197.set (x8_1 : Int).toNat a2) (wrap64 (x8_1 + 1))) else (spec_odElements.l0 k1 a0 a1 a2 y197 (wrap64 (x8_1 + 1)))) else (none)) = some r := by first | (rw [hji12] at H; exact H) | (simp only [hji12] at H ⊢; exact H)
                by_cases c13 : 0 ≤ (ji12)
                · rw [if_pos c13] at H
                  have c13b0 := eq_true c13
                  have c13b1 : decide (0 ≤ (ji12)) = true := decide_eq_true c13
                  clear c13
                  obtain ⟨ji14, hji14⟩ : ∃ j_ : Int, (shr .i64 a0 (ji12)) = j_ := ⟨_, rfl⟩
                  replace H : (if (Go.bits .and .i64 (ji14) 1) = 1 then (spec_odElements.l0 k1 a0 a1 a2 (y197.set (x8_1 : Int).toNat a2) (wrap64 (x8_1 + 1))) else (spec_odElements.l0 k1 a0 a1 a2 y197 (wrap64 (x8_1 + 1)))) = some r := by first | (rw [hji14] at H; exact H) | (simp only [hji14] at H ⊢; exact H)
                  have hji14_ : (a0 / 2 ^ min (ji12).toNat 64) = ji14 := hji14
                  have hji14z : (ji12) ≤ 64 → (a0 / 2 ^ (ji12).toNat) = ji14 := shr_small hji14
                  by_cases c15 : (Go.bits .and .i64 (ji14) 1) = 1
                  · rw [if_pos c15] at H
                    have c15b0 : ((Go.bits .and .i64 (ji14) 1) == 1) = true := beq_iff_eq.mpr c15
                    have c15b1 : ((Go.bits .and .i64 (ji14) 1) != 1) = false := bne_eq_false_iff_eq.mpr c15
                    clear c15
                    obtain ⟨y198, hy198⟩ : ∃ y_ : List Int, y_ = (y197.set (x8_1 : Int).toNat a2) := ⟨_, rfl⟩
                    replace H : (spec_odElements.l0 k1 a0 a1 a2 y198 (wrap64 (x8_1 + 1))) = some r := by first | (rw [hy198]; with_reducible exact H) | (have H2_ := (Option.bind_some _ _).symm.trans H; rw [hy198]; with_reducible exact H2_) | (have H2_ := (Option.bind_some _ _).symm.trans H; with_reducible exact H2_) | with_reducible exact H | (rw [hy198]; exact H) | exact H
                    have Ny198 := Aside0.mk hy198
                    clear hy198
                    have H' := Aside0.mk H
                    clear H
                    have p11 : 0 ≤ (x8_1 : Int) := of_decide_eq_true (by first | (with_reducible assumption) | assumption)
                    have q11 : (x8_1 : Int) < ((x7_1.length : Int) : Int) := of_decide_eq_true (by first | (with_reducible assumption) | assumption)
                    obtain ⟨go11, co11, eo11, gb11, gl11, cl11, HG11⟩ := Kd.R_form HO_7.out (by omega)
                    (first | cases eo11 | (injection eo11 with ea_ en_ ec_; (first | subst ea_ | (injection ea_ with ea_; subst ea_)); subst ec_; clear en_))
                    have GB11 := Aside0.mk gb11
                    have GG11 := Aside0.mk HG11
                    clear gb11 gl11 HG11
                    obtain ⟨hx11_0, hf11_0⟩ := Kd.R_celln 0 HO_7.out (x8_1 : Int) p11 q11
                    replace p11 := eq_true p11
                    replace q11 := eq_true q11
                    have HP17 := Kd.R_putg HO_7.out (x8_1 : Int) 1
                    go_wp2_with (first | ((with_reducible refine gate_store (t := 3) (p := 18) rfl ?_); refine store_event (t := 3) (p := 18) (v := ?vo_w18) (w1 := (wr.setCell ⟨go11, (x8_1 : Int).toNat, none⟩ (.int .i64 1))) ?hg ?ho ?hn ?hr ?_; (case ho => rfl); (case hg => rfl); (case hn => rfl); (case hr => first | (go_simp; done) | (go_simp; rfl)); intro w18 hw; have hg : wr.grownBy w18 (some go11) := (by rw [hw]; exact HP17.2); have hp_ : Kd.R (Kd.int .i64) 3 w18 w.heap.size (fun _ => True) (.slice (some ⟨go11, 0, none⟩) x7_1.length co11) y197 := (by rw [hw, Ny197.out]; exact HP17.1); clear HP17; have n0_ := Aside0.mk (hp_); have n1_ := Aside0.mk ((by rw [hw]; exact below_set (HB.out) GB11.out : Below w.heap.size w w18)); clear HO_7; clear HB; have HO_7 := n0_; have HB := n1_; clear n0_ n1_; clear hg hw hp_; have p16 : 0 ≤ (x8_1 : Int) := of_decide_eq_true (by first | (with_reducible assumption) | assumption); have q16 : (x8_1 : Int) < ((x7_1.length : Int) : Int) := of_decide_eq_true (by first | (with_reducible assumption) | assumption); obtain ⟨hx16_0, hf16_0⟩ := Kd.R_celln 0 HO_7.out (x8_1 : Int) p16 q16; replace p16 := eq_true p16; replace q16 := eq_true q16; obtain ⟨hy19_, hz19_⟩ := Kd.R_celln 0 HO_7.out (x8_1 : Int) (of_decide_eq_true (by first | (with_reducible assumption) | assumption)) (of_decide_eq_true (by first | (with_reducible assumption) | assumption)); have HP19 := Kd.R_putg HO_7.out (x8_1 : Int) a2) | ((with_reducible refine gate_store (t := 3) (p := 31) rfl ?_); refine store_event (t := 3) (p := 31) (v := ?vo_w20) (w1 := (w18.setCell ⟨go11, (x8_1 : Int).toNat, none⟩ (.int .i64 a2))) ?hg ?ho ?hn ?hr ?_; (case ho => rfl); (case hg => rfl); (case hn => rfl); (case hr => first | (go_simp; done) | (go_simp; rfl)); intro w20 hw; have hg : w18.grownBy w20 (some go11) := (by rw [hw]; exact HP19.2); have hp_ : Kd.R (Kd.int .i64) 3 w20 w.heap.size (fun _ => True) (.slice (some ⟨go11, 0, none⟩) x7_1.length co11) y198 := (by rw [hw, Ny198.out]; exact HP19.1); clear HP19; have n0_ := Aside0.mk (hp_); have n1_ := Aside0.mk ((by rw [hw]; exact below_set (HB.out) GB11.out : Below w.heap.size w w20)); clear HO_7; clear HB; have HO_7 := n0_; have HB := n1_; clear n0_ n1_; clear hg hw hp_))
                    go_roundg k1
                    case measure => have := HK1.out; omega
                    case rel => exact ⟨(y198), (wrap64 (x8_1 + 1)), (by first | rfl | (simp; done) | (simp [*]; done)), H', ⟨by have := HK1.out; omega⟩, ⟨by (with_reducible repeat (first | apply Kd.R_alloc | apply Kd.R_drewN | apply Kd.R_drew)); exact HO_7.out⟩, ⟨by repeat (first | (with_reducible first | exact HB.out | apply below_alloc | apply pw_below_drewN | apply below_drew1) | exact HB.out)⟩⟩
                  · rw [if_neg c15] at H
                    have c15b0 : ((Go.bits .and .i64 (ji14) 1) == 1) = false := beq_eq_false_iff_ne.mpr c15
                    have c15b1 : ((Go.bits .and .i64 (ji14) 1) != 1) = true := bne_iff_ne.mpr c15
                    have H' := Aside0.mk H
                    clear H
                    have p11 : 0 ≤ (x8_1 : Int) := of_decide_eq_true (by first | (with_reducible assumption) | assumption)
                    have q11 : (x8_1 : Int) < ((x7_1.length : Int) : Int) := of_decide_eq_true (by first | (with_reducible assumption) | assumption)
                    obtain ⟨go11, co11, eo11, gb11, gl11, cl11, HG11⟩ := Kd.R_form HO_7.out (by omega)
                    (first | cases eo11 | (injection eo11 with ea_ en_ ec_; (first | subst ea_ | (injection ea_ with ea_; subst ea_)); subst ec_; clear en_))
                    have GB11 := Aside0.mk gb11
                    have GG11 := Aside0.mk HG11
                    clear gb11 gl11 HG11
                    obtain ⟨hx11_0, hf11_0⟩ := Kd.R_celln 0 HO_7.out (x8_1 : Int) p11 q11
                    replace p11 := eq_true p11
                    replace q11 := eq_true q11
                    have HP21 := Kd.R_putg HO_7.out (x8_1 : Int) 1
                    go_wp2_with (first | ((with_reducible refine gate_store (t := 3) (p := 18) rfl ?_); refine store_event (t := 3) (p := 18) (v := ?vo_w22) (w1 := (wr.setCell ⟨go11, (x8_1 : Int).toNat, none⟩ (.int .i64 1))) ?hg ?ho ?hn ?hr ?_; (case ho => rfl); (case hg => rfl); (case hn => rfl); (case hr => first | (go_simp; done) | (go_simp; rfl)); intro w22 hw; have hg : wr.grownBy w22 (some go11) := (by rw [hw]; exact HP21.2); have hp_ : Kd.R (Kd.int .i64) 3 w22 w.heap.size (fun _ => True) (.slice (some ⟨go11, 0, none⟩) x7_1.length co11) y197 := (by rw [hw, Ny197.out]; exact HP21.1); clear HP21; have n0_ := Aside0.mk (hp_); have n1_ := Aside0.mk ((by rw [hw]; exact below_set (HB.out) GB11.out : Below w.heap.size w w22)); clear HO_7; clear HB; have HO_7 := n0_; have HB := n1_; clear n0_ n1_; clear hg hw hp_))
                    go_roundg k1
                    case measure => have := HK1.out; omega
                    case rel => exact ⟨(y197), (wrap64 (x8_1 + 1)), (by first | rfl | (simp; done) | (simp [*]; done)), H', ⟨by have := HK1.out; omega⟩, ⟨by (with_reducible repeat (first | apply Kd.R_alloc | apply Kd.R_drewN | apply Kd.R_drew)); exact HO_7.out⟩, ⟨by repeat (first | (with_reducible first | exact HB.out | apply below_alloc | apply pw_below_drewN | apply below_drew1) | exact HB.out)⟩⟩
                · rw [if_neg c13] at H
                  exact absurd H (by simp)
              · rw [if_neg c10] at H
                exact absurd H (by simp)
            · rw [if_neg c9] at H
              exact absurd H (by simp)
          · rw [if_neg c8] at H
            have c8b0 : decide (x8_1 < a1) = false := decide_eq_false c8
            clear c8
            obtain rfl := Option.some.inj H
            go_wp2
            go_ret
            exact ⟨_, by first | rfl | (simp [errW_none, errW_some] <;> rfl) | (simp [*, errW_none, errW_some] <;> rfl), by (with_reducible repeat (first | apply Kd.R_alloc | apply Kd.R_drewN | apply Kd.R_drew)); exact HO_7.out, by repeat (first | (with_reducible first | exact HB.out | apply below_alloc | apply pw_below_drewN | apply below_drew1) | exact HB.out)⟩
    · rw [if_neg c5] at H
      exact absurd H (by simp)
  · rw [if_neg c4] at H
    exact absurd H (by simp)

-- NOT PRINTED: function 11 (laws_FnODWrites128)

/-! ### spec_od39Bits: function 47 -/
def spec_od39Bits.f (a0 : Int) : Option (Int) := (some (([52, 289, 97, 352, 49, 304, 112, 37, 292, 100, 265, 73, 328, 25, 280, 88, 13, 268, 76, 28, 259, 67, 322, 19, 274, 82, 7, 262, 70, 22, 385, 193, 448, 145, 400, 208, 133, 388, 196, 168, 162, 138, 42, 148] : List Int) : List Int)).bind fun y362 => (if 0 ≤ a0 then (if a0 < (y362.length : Int) then (some (rd y362 a0)) else (none)) else (none))
set_option maxHeartbeats 8000000 in
set_option maxRecDepth 100000 in
theorem spec_od39Bits.calls (a0 : Int) (r : Int) (w : World) (h : spec_od39Bits.f a0 = some r) :
    Calls Tryz.prog 47 #[.int .i64 a0] w fun e w' => e = .returned (.int .i64 r) ∧ Below w.heap.size w w' := by
  have HB := Aside0.mk (Below.refl w.heap.size w)
  have H : ((some (([52, 289, 97, 352, 49, 304, 112, 37, 292, 100, 265, 73, 328, 25, 280, 88, 13, 268, 76, 28, 259, 67, 322, 19, 274, 82, 7, 262, 70, 22, 385, 193, 448, 145, 400, 208, 133, 388, 196, 168, 162, 138, 42, 148] : List Int) : List Int)).bind fun y362 => (if 0 ≤ a0 then (if a0 < (y362.length : Int) then (some (rd y362 a0)) else (none)) else (none))) = some r := h
  clear h
  obtain ⟨y362, hy362⟩ : ∃ y_ : List Int, y_ = (([52, 289, 97, 352, 49, 304, 112, 37, 292, 100, 265, 73, 328, 25, 280, 88, 13, 268, 76, 28, 259, 67, 322, 19, 274, 82, 7, 262, 70, 22, 385, 193, 448, 145, 400, 208, 133, 388, 196, 168, 162, 138, 42, 148] : List Int)) := ⟨_, rfl⟩
  replace H : (if 0 ≤ a0 then (if a0 < (y362.length : Int) then (some (rd y362 a0)) else (none)) else (none)) = some r := by first | (rw [hy362]; with_reducible exact H) | (have H2_ := (Option.bind_some _ _).symm.trans H; rw [hy362]; with_reducible exact H2_) | (have H2_ := (Option.bind_some _ _).symm.trans H; with_reducible exact H2_) | with_reducible exact H | (rw [hy362]; exact H) | exact H
  have Ny362 := Aside0.mk hy362
  clear hy362
  by_cases c2 : 0 ≤ a0
  · rw [if_pos c2] at H
    have c2b0 : decide (0 ≤ a0) = true := decide_eq_true c2
    clear c2
    by_cases c3 : a0 < (y362.length : Int)
    · rw [if_pos c3] at H
      have c3b0 : decide (a0 < (y362.length : Int)) = true := decide_eq_true c3
      clear c3
      obtain rfl := Option.some.inj H
      go_enter Tryz.func47, Tryz.ntmps47
      go_wp2_with (first | ((with_reducible refine gate_dst (N := 4) rfl ?_); refine Kd.R_lit (Kd.int .i64) _ 3 ?hg (N := 4) ?hd (xs := ([52, 289, 97, 352, 49, 304, 112, 37, 292, 100, 265, 73, 328, 25, 280, 88, 13, 268, 76, 28, 259, 67, 322, 19, 274, 82, 7, 262, 70, 22, 385, 193, 448, 145, 400, 208, 133, 388, 196, 168, 162, 138, 42, 148] : List Int)) (inner := [.int .i64 52, .int .i64 289, .int .i64 97, .int .i64 352, .int .i64 49, .int .i64 304, .int .i64 112, .int .i64 37, .int .i64 292, .int .i64 100, .int .i64 265, .int .i64 73, .int .i64 328, .int .i64 25, .int .i64 280, .int .i64 88, .int .i64 13, .int .i64 268, .int .i64 76, .int .i64 28, .int .i64 259, .int .i64 67, .int .i64 322, .int .i64 19, .int .i64 274, .int .i64 82, .int .i64 7, .int .i64 262, .int .i64 70, .int .i64 22, .int .i64 385, .int .i64 193, .int .i64 448, .int .i64 145, .int .i64 400, .int .i64 208, .int .i64 133, .int .i64 388, .int .i64 196, .int .i64 168, .int .i64 162, .int .i64 138, .int .i64 42, .int .i64 148]) (ok := fun _ => True) (okp := fun _ => True) ?hr ?hp (fun _ hk => hk) trivial (Below.refl _ _) (Nat.le_refl _) (by simp) ?_; (case hd => rfl); (case hg => rfl); (case hr => first | (go_simp; done) | (go_simp; rfl)); (case hp => exact (Reps.one (show Kd.M (Kd.int .i64) _ _ _ 52 [.int .i64 52] from rfl) (Reps.one (show Kd.M (Kd.int .i64) _ _ _ 289 [.int .i64 289] from rfl) (Reps.one (show Kd.M (Kd.int .i64) _ _ _ 97 [.int .i64 97] from rfl) (Reps.one (show Kd.M (Kd.int .i64) _ _ _ 352 [.int .i64 352] from rfl) (Reps.one (show Kd.M (Kd.int .i64) _ _ _ 49 [.int .i64 49] from rfl) (Reps.one (show Kd.M (Kd.int .i64) _ _ _ 304 [.int .i64 304] from rfl) (Reps.one (show Kd.M (Kd.int .i64) _ _ _ 112 [.int .i64 112] from rfl) (Reps.one (show Kd.M (Kd.int .i64) _ _ _ 37 [.int .i64 37] from rfl) (Reps.one (show Kd.M (Kd.int .i64) _ _ _ 292 [.int .i64 292] from rfl) (Reps.one (show Kd.M (Kd.int .i64) _ _ _ 100 [.int .i64 100] from rfl) (Reps.one (show Kd.M (Kd.int .i64) _ _ _ 265 [.int .i64 265] from rfl) (Reps.one (show Kd.M (Kd.int .i64) _ _ _ 73 [.int .i64 73] from rfl) (Reps.one (show Kd.M (Kd.int .i64) _ _ _ 328 [.int .i64 328] from rfl) (Reps.one (show Kd.M (Kd.int .i64) _ _ _ 25 [.int .i64 25] from rfl) (Reps.one (show Kd.M (Kd.int .i64) _ _ _ 280 [.int .i64 280] from rfl) (Reps.one (show Kd.M (Kd.int .i64) _ _ _ 88 [.int .i64 88] from rfl) (Reps.one (show Kd.M (Kd.int .i64) _ _ _ 13 [.int .i64 13] from rfl) (Reps.one (show Kd.M (Kd.int .i64) _ _ _ 268 [.int .i64 268] from rfl) (Reps.one (show Kd.M (Kd.int .i64) _ _ _ 76 [.int .i64 76] from rfl) (Reps.one (show Kd.M (Kd.int .i64) _ _ _ 28 [.int .i64 28] from rfl) (Reps.one (show Kd.M (Kd.int .i64) _ _ _ 259 [.int .i64 259] from rfl) (Reps.one (show Kd.M (Kd.int .i64) _ _ _ 67 [.int .i64 67] from rfl) (Reps.one (show Kd.M (Kd.int .i64) _ _ _ 322 [.int .i64 322] from rfl) (Reps.one (show Kd.M (Kd.int .i64) _ _ _ 19 [.int .i64 19] from rfl) (Reps.one (show Kd.M (Kd.int .i64) _ _ _ 274 [.int .i64 274] from rfl) (Reps.one (show Kd.M (Kd.int .i64) _ _ _ 82 [.int .i64 82] from rfl) (Reps.one (show Kd.M (Kd.int .i64) _ _ _ 7 [.int .i64 7] from rfl) (Reps.one (show Kd.M (Kd.int .i64) _ _ _ 262 [.int .i64 262] from rfl) (Reps.one (show Kd.M (Kd.int .i64) _ _ _ 70 [.int .i64 70] from rfl) (Reps.one (show Kd.M (Kd.int .i64) _ _ _ 22 [.int .i64 22] from rfl) (Reps.one (show Kd.M (Kd.int .i64) _ _ _ 385 [.int .i64 385] from rfl) (Reps.one (show Kd.M (Kd.int .i64) _ _ _ 193 [.int .i64 193] from rfl) (Reps.one (show Kd.M (Kd.int .i64) _ _ _ 448 [.int .i64 448] from rfl) (Reps.one (show Kd.M (Kd.int .i64) _ _ _ 145 [.int .i64 145] from rfl) (Reps.one (show Kd.M (Kd.int .i64) _ _ _ 400 [.int .i64 400] from rfl) (Reps.one (show Kd.M (Kd.int .i64) _ _ _ 208 [.int .i64 208] from rfl) (Reps.one (show Kd.M (Kd.int .i64) _ _ _ 133 [.int .i64 133] from rfl) (Reps.one (show Kd.M (Kd.int .i64) _ _ _ 388 [.int .i64 388] from rfl) (Reps.one (show Kd.M (Kd.int .i64) _ _ _ 196 [.int .i64 196] from rfl) (Reps.one (show Kd.M (Kd.int .i64) _ _ _ 168 [.int .i64 168] from rfl) (Reps.one (show Kd.M (Kd.int .i64) _ _ _ 162 [.int .i64 162] from rfl) (Reps.one (show Kd.M (Kd.int .i64) _ _ _ 138 [.int .i64 138] from rfl) (Reps.one (show Kd.M (Kd.int .i64) _ _ _ 42 [.int .i64 42] from rfl) (Reps.one (show Kd.M (Kd.int .i64) _ _ _ 148 [.int .i64 148] from rfl) (Reps.none _ _)))))))))))))))))))))))))))))))))))))))))))))); intro v363 w4 ho5 hb hg_ hnew_; clear hg_ hnew_; (first | rw [← Ny362.out] at ho5 | (simp only [Int.reduceToNat] at ho5; rw [← Ny362.out] at ho5)); have n0_ := Aside0.mk (Kd.R_lower ho5 (below_size (by repeat (first | (with_reducible first | exact HB.out | apply below_alloc | apply pw_below_drewN | apply below_drew1) | exact HB.out)))); have n1_ := Aside0.mk (below_step (by repeat (first | (with_reducible first | exact HB.out | apply below_alloc | apply pw_below_drewN | apply below_drew1) | exact HB.out)) hb); clear HB; have HO364 := n0_; have HB := n1_; clear n0_ n1_; clear hb ho5; obtain ⟨Ao6, co6, eo6⟩ := Kd.R_slice HO364.out; subst eo6; have p365 : 0 ≤ (a0 : Int) := of_decide_eq_true (by first | (with_reducible assumption) | assumption); have q365 : a0 < (y362.length : Int) := of_decide_eq_true (by first | (with_reducible assumption) | assumption); obtain ⟨ad365, e365, hx365_0⟩ := Kd.at_int (Kd.R_reads' HO364.out).2.2 a0 p365 q365; cases e365; replace p365 := eq_true p365; replace q365 := eq_true q365))
      go_ret
      exact ⟨by first | rfl | (simp [errW_none, errW_some] <;> rfl) | (simp [*, errW_none, errW_some] <;> rfl), by repeat (first | (with_reducible first | exact HB.out | apply below_alloc | apply pw_below_drewN | apply below_drew1) | exact HB.out)⟩
    · rw [if_neg c3] at H
      exact absurd H (by simp)
  · rw [if_neg c2] at H
    exact absurd H (by simp)

/-! ### spec_OD39: function 28 -/
mutual
def spec_OD39.l0 : Nat → ByteArray → List Int → Int → Option (List Bool)
  | 0, _, _, _ => none
  | k + 1, x0, x3, x4 => if x4 ≤ (x0.size : Int) then (if x4 ≥ 0 then (spec_OD39.j1 k x0 x3 x4 43 (decide (x4 < (x0.size : Int)))) else (spec_OD39.j1 k x0 x3 x4 43 false)) else ((spec_ODBars.f k x3).bind fun t366 => (some t366))
def spec_OD39.j1 : Nat → ByteArray → List Int → Int → Int → Bool → Option (List Bool)
  | 0, _, _, _, _, _ => none
  | k + 1, x0, x3, x4, x5, x19 => if x19 = true then (if 0 ≤ x4 then (if x4 < (x0.size : Int) then ((spec_odAt.f k (⟨#[48, 49, 50, 51, 52, 53, 54, 55, 56, 57, 65, 66, 67, 68, 69, 70, 71, 72, 73, 74, 75, 76, 77, 78, 79, 80, 81, 82, 83, 84, 85, 86, 87, 88, 89, 90, 45, 46, 32, 36, 47, 43, 37]⟩ : ByteArray) (bt x0 x4)).bind fun t369 => (spec_OD39.j2 k x0 x3 x4 t369)) else (none)) else (none)) else (spec_OD39.j2 k x0 x3 x4 x5)
def spec_OD39.j2 : Nat → ByteArray → List Int → Int → Int → Option (List Bool)
  | 0, _, _, _, _ => none
  | k + 1, x0, x3, x4, x5 => if x4 ≥ 0 then (if x3.length < 17592186044416 then ((some (x3 ++ [1] : List Int)).bind fun y370 => ((spec_od39Bits.f x5).bind fun t373 => ((spec_odElements.f k t373 9 2).bind fun t374 => (if y370.length + t374.length < 17592186044416 then (spec_OD39.l0 k x0 (y370 ++ t374) (wrap64 (x4 + 1))) else (none))))) else (none)) else ((spec_od39Bits.f x5).bind fun t380 => ((spec_odElements.f k t380 9 2).bind fun t381 => (if x3.length + t381.length < 17592186044416 then (spec_OD39.l0 k x0 (x3 ++ t381) (wrap64 (x4 + 1))) else (none))))
end
def spec_OD39.f (k : Nat) (a0 : ByteArray) : Option (List Bool) := spec_OD39.l0 k a0 ([] : List Int) (-1)
theorem spec_OD39.mono_l : ∀ k, (∀ y0 y1 y2, LeO (spec_OD39.l0 k y0 y1 y2) (spec_OD39.l0 (k + 1) y0 y1 y2)) ∧ (∀ y0 y1 y2 y3 y4, LeO (spec_OD39.j1 k y0 y1 y2 y3 y4) (spec_OD39.j1 (k + 1) y0 y1 y2 y3 y4)) ∧ (∀ y0 y1 y2 y3, LeO (spec_OD39.j2 k y0 y1 y2 y3) (spec_OD39.j2 (k + 1) y0 y1 y2 y3))
  | 0 => ⟨fun _ _ _ r h => by simp [spec_OD39.l0] at h, fun _ _ _ _ _ r h => by simp [spec_OD39.j1] at h, fun _ _ _ _ r h => by simp [spec_OD39.j2] at h⟩
  | k + 1 => by
    obtain ⟨ih0, ih1, ih2⟩ := spec_OD39.mono_l k
    refine ⟨?_, ?_, ?_⟩
    · intro y0 y1 y2
      unfold spec_OD39.l0
      repeat' first
      | (with_reducible exact ih0 _ _ _)
      | (with_reducible exact ih1 _ _ _ _ _)
      | (with_reducible exact ih2 _ _ _ _)
      | (with_reducible exact spec_ODBars.mono _ _)
      | (with_reducible exact spec_odAt.mono _ _ _)
      | (with_reducible exact spec_odElements.mono _ _ _ _)
      | (with_reducible exact LeO.refl _)
      | (with_reducible exact LeO.none _)
      | (with_reducible refine LeO.ite ?_ ?_)
      | (with_reducible refine LeO.bind ?_ (fun _ => ?_))
      | exact ih0 _ _ _
      | exact ih1 _ _ _ _ _
      | exact ih2 _ _ _ _
      | exact spec_ODBars.mono _ _
      | exact spec_odAt.mono _ _ _
      | exact spec_odElements.mono _ _ _ _
      | exact LeO.none _
      | refine LeO.ite ?_ ?_
      | refine LeO.bind ?_ (fun _ => ?_)
    · intro y0 y1 y2 y3 y4
      unfold spec_OD39.j1
      repeat' first
      | (with_reducible exact ih0 _ _ _)
      | (with_reducible exact ih1 _ _ _ _ _)
      | (with_reducible exact ih2 _ _ _ _)
      | (with_reducible exact spec_ODBars.mono _ _)
      | (with_reducible exact spec_odAt.mono _ _ _)
      | (with_reducible exact spec_odElements.mono _ _ _ _)
      | (with_reducible exact LeO.refl _)
      | (with_reducible exact LeO.none _)
      | (with_reducible refine LeO.ite ?_ ?_)
      | (with_reducible refine LeO.bind ?_ (fun _ => ?_))
      | exact ih0 _ _ _
      | exact ih1 _ _ _ _ _
      | exact ih2 _ _ _ _
      | exact spec_ODBars.mono _ _
      | exact spec_odAt.mono _ _ _
      | exact spec_odElements.mono _ _ _ _
      | exact LeO.none _
      | refine LeO.ite ?_ ?_
      | refine LeO.bind ?_ (fun _ => ?_)
    · intro y0 y1 y2 y3
      unfold spec_OD39.j2
      repeat' first
      | (with_reducible exact ih0 _ _ _)
      | (with_reducible exact ih1 _ _ _ _ _)
      | (with_reducible exact ih2 _ _ _ _)
      | (with_reducible exact spec_ODBars.mono _ _)
      | (with_reducible exact spec_odAt.mono _ _ _)
      | (with_reducible exact spec_odElements.mono _ _ _ _)
      | (with_reducible exact LeO.refl _)
      | (with_reducible exact LeO.none _)
      | (with_reducible refine LeO.ite ?_ ?_)
      | (with_reducible refine LeO.bind ?_ (fun _ => ?_))
      | exact ih0 _ _ _
      | exact ih1 _ _ _ _ _
      | exact ih2 _ _ _ _
      | exact spec_ODBars.mono _ _
      | exact spec_odAt.mono _ _ _
      | exact spec_odElements.mono _ _ _ _
      | exact LeO.none _
      | refine LeO.ite ?_ ?_
      | refine LeO.bind ?_ (fun _ => ?_)
theorem spec_OD39.mono : ∀ a0 k, LeO (spec_OD39.f k a0) (spec_OD39.f (k + 1) a0) := by
  intro a0 k
  obtain ⟨ih0, ih1, ih2⟩ := spec_OD39.mono_l k
  unfold spec_OD39.f
  repeat' first
      | (with_reducible exact ih0 _ _ _)
      | (with_reducible exact ih1 _ _ _ _ _)
      | (with_reducible exact ih2 _ _ _ _)
      | (with_reducible exact spec_ODBars.mono _ _)
      | (with_reducible exact spec_odAt.mono _ _ _)
      | (with_reducible exact spec_odElements.mono _ _ _ _)
      | (with_reducible exact LeO.refl _)
      | (with_reducible exact LeO.none _)
      | (with_reducible refine LeO.ite ?_ ?_)
      | (with_reducible refine LeO.bind ?_ (fun _ => ?_))
      | exact ih0 _ _ _
      | exact ih1 _ _ _ _ _
      | exact ih2 _ _ _ _
      | exact spec_ODBars.mono _ _
      | exact spec_odAt.mono _ _ _
      | exact spec_odElements.mono _ _ _ _
      | exact LeO.none _
      | refine LeO.ite ?_ ?_
      | refine LeO.bind ?_ (fun _ => ?_)
set_option maxHeartbeats 8000000 in
set_option maxRecDepth 100000 in
theorem spec_OD39.calls (k : Nat) (a0 : ByteArray) (r : List Bool) (w : World) (h : spec_OD39.f k a0 = some r) :
    Calls Tryz.prog 28 #[.string a0] w fun e w' => ∃ v0_ : Value, e = .returned (v0_) ∧ Kd.R Kd.bool 4 w' w.heap.size (fun _ => True) v0_ r ∧ Below w.heap.size w w' := by
  have HB := Aside0.mk (Below.refl w.heap.size w)
  have H : (spec_OD39.l0 k a0 ([] : List Int) (-1)) = some r := h
  clear h
  have H' := Aside0.mk H
  clear H
  go_enter Tryz.func28, Tryz.ntmps28
  go_wp2
  go_loopg [3, 4] k (fun kq v3 v4 w' => ∃ (x3_1 : List Int) (x4_1 : Int), v4 = .int .i64 x4_1 ∧ Aside0 (spec_OD39.l0 kq a0 x3_1 x4_1 = some r) ∧ Aside0 (kq ≤ k) ∧ Aside0 (Kd.R (Kd.int .i64) 3 w' w.heap.size (fun _ => True) v3 x3_1) ∧ Aside0 (Below w.heap.size w w'))
  case atStart => exact ⟨(([] : List Int)), ((-1)), (by first | rfl | (simp; done) | (simp [*]; done)), H', ⟨Nat.le_refl _⟩, ⟨by first | exact Kd.R_nil _ _ _ _ _ | exact Kd.N_nil _ _ _ _ _ | exact Kd.V_nil _ _ _ _ _ | exact Kd.Q_nil _ _ _ _ _ | exact Kd.S_nil _ _ _ _ _⟩, ⟨by repeat (first | (with_reducible first | exact HB.out | apply below_alloc | apply pw_below_drewN | apply below_drew1) | exact HB.out)⟩⟩
  case round =>
    clear H'
    obtain ⟨x3_1, x4_1, rfl, HA, HK1, HO_3, HB⟩ := hrel
    cases gk with
    | zero => exact absurd HA.out (by simp [spec_OD39.l0])
    | succ k1 =>
      have H := HA.out
      clear HA
      simp only [spec_OD39.l0] at H
      by_cases c2 : x4_1 ≤ (a0.size : Int)
      · rw [if_pos c2] at H
        have c2b0 : decide (x4_1 ≤ (a0.size : Int)) = true := decide_eq_true c2
        clear c2
        have HC3 := Aside0.mk H
        clear H
        go_upto_region 6 with (fail)
        go_cut [19] (fun v19 wc => ∃ (kq : Nat) (x19_2 : Bool), v19 = .bool x19_2 ∧ Aside0 (spec_OD39.j1 kq a0 x3_1 x4_1 43 x19_2 = some r) ∧ Aside0 (kq ≤ k1) ∧ Aside0 (Kd.R (Kd.int .i64) 3 wc w.heap.size (fun _ => True) u3 x3_1) ∧ Aside0 (Below w.heap.size w wc))
        case first =>
          have H := HC3.out
          clear HC3
          by_cases c4 : x4_1 ≥ 0
          · rw [if_pos c4] at H
            have c4b0 : decide (0 ≤ x4_1) = true := decide_eq_true c4
            clear c4
            (first | rw [c4b0] | (simp only [i64_w, i32_w]; rw [c4b0]) | skip)
            have H' := Aside0.mk H
            clear H
            go_wp2
            go_meet
            case rel => exact ⟨_, (decide (x4_1 < (a0.size : Int))), (by first | rfl | (simp; done) | (simp [*]; done)), H', ⟨by have := HK1.out; first | omega | exact Nat.le_refl _⟩, ⟨by (with_reducible repeat (first | apply Kd.R_alloc | apply Kd.R_drewN | apply Kd.R_drew)); exact HO_3.out⟩, ⟨by repeat (first | (with_reducible first | exact HB.out | apply below_alloc | apply pw_below_drewN | apply below_drew1) | exact HB.out)⟩⟩
          · rw [if_neg c4] at H
            have c4b0 : decide (0 ≤ x4_1) = false := decide_eq_false c4
            clear c4
            (first | rw [c4b0] | (simp only [i64_w, i32_w]; rw [c4b0]) | skip)
            have H' := Aside0.mk H
            clear H
            go_wp2
            go_meet
            case rel => exact ⟨_, (false), (by first | rfl | (simp; done) | (simp [*]; done)), H', ⟨by have := HK1.out; first | omega | exact Nat.le_refl _⟩, ⟨by (with_reducible repeat (first | apply Kd.R_alloc | apply Kd.R_drewN | apply Kd.R_drew)); exact HO_3.out⟩, ⟨by repeat (first | (with_reducible first | exact HB.out | apply below_alloc | apply pw_below_drewN | apply below_drew1) | exact HB.out)⟩⟩
        case rest =>
          clear HC3
          try clear c2
          try clear c2b0
          try clear p2
          try clear c4
          try clear c4b0
          obtain ⟨kq, x19_2, rfl, HA, HJ2, HO_3, HB⟩ := hcut
          cases kq with
          | zero => exact absurd HA.out (by simp [spec_OD39.j1])
          | succ kj2 =>
            have H := HA.out
            clear HA
            simp only [spec_OD39.j1] at H
            have HC5 := Aside0.mk H
            clear H
            go_upto_if 19 with (fail)
            go_cut [5] (fun v5 wc => ∃ (kq : Nat) (x5_4 : Int), v5 = .int .i64 x5_4 ∧ Aside0 (spec_OD39.j2 kq a0 x3_1 x4_1 x5_4 = some r) ∧ Aside0 (kq ≤ kj2) ∧ Aside0 (Kd.R (Kd.int .i64) 3 wc w.heap.size (fun _ => True) u3 x3_1) ∧ Aside0 (Below w.heap.size w wc))
            case first =>
              have H := HC5.out
              clear HC5
              by_cases c6 : x19_2 = true
              · subst c6
                have H1 : (if 0 ≤ x4_1 then (if x4_1 < (a0.size : Int) then ((spec_odAt.f kj2 (⟨#[48, 49, 50, 51, 52, 53, 54, 55, 56, 57, 65, 66, 67, 68, 69, 70, 71, 72, 73, 74, 75, 76, 77, 78, 79, 80, 81, 82, 83, 84, 85, 86, 87, 88, 89, 90, 45, 46, 32, 36, 47, 43, 37]⟩ : ByteArray) (bt a0 x4_1)).bind fun t369 => (spec_OD39.j2 kj2 a0 x3_1 x4_1 t369)) else (none)) else (none)) = some r := by rw [if_pos rfl] at H; exact H
                clear H
                have H := H1
                clear H1
                by_cases c7 : 0 ≤ x4_1
                · rw [if_pos c7] at H
                  have c7b0 : decide (0 ≤ x4_1) = true := decide_eq_true c7
                  clear c7
                  (first | rw [c7b0] | (simp only [i64_w, i32_w]; rw [c7b0]) | skip)
                  by_cases c8 : x4_1 < (a0.size : Int)
                  · rw [if_pos c8] at H
                    have c8b0 : decide (x4_1 < (a0.size : Int)) = true := decide_eq_true c8
                    clear c8
                    replace H := Option.bind_eq_some_iff.mp H
                    obtain ⟨t369, A100, H⟩ := H
                    replace H : (spec_OD39.j2 kj2 a0 x3_1 x4_1 t369) = some r := H
                    have A10 := Aside0.mk A100
                    clear A100
                    have H' := Aside0.mk H
                    clear H
                    have p9 : 0 ≤ (x4_1 : Int) := of_decide_eq_true (by first | (with_reducible assumption) | assumption)
                    have q9 : x4_1 < (a0.size : Int) := of_decide_eq_true (by first | (with_reducible assumption) | assumption)
                    have hx9 := bt_at a0 x4_1
                    replace p9 := eq_true p9
                    replace q9 := eq_true q9
                    go_wp2_with (first | ((with_reducible refine gate_callee (f := 32) rfl ?_); refine goesL_ (some 23) rfl rfl Tryz.func32 (by kernel_rfl) rfl #[.string (⟨#[48, 49, 50, 51, 52, 53, 54, 55, 56, 57, 65, 66, 67, 68, 69, 70, 71, 72, 73, 74, 75, 76, 77, 78, 79, 80, 81, 82, 83, 84, 85, 86, 87, 88, 89, 90, 45, 46, 32, 36, 47, 43, 37]⟩ : ByteArray), .int .u8 (bt a0 x4_1)] rfl (by (try simp only [List.map_toArray, List.map_cons, List.map_nil]); first | done | rfl | (simp only [List.length_drop, List.length_take]; rfl)) ?_; (with_reducible refine (spec_odAt.calls kj2 (⟨#[48, 49, 50, 51, 52, 53, 54, 55, 56, 57, 65, 66, 67, 68, 69, 70, 71, 72, 73, 74, 75, 76, 77, 78, 79, 80, 81, 82, 83, 84, 85, 86, 87, 88, 89, 90, 45, 46, 32, 36, 47, 43, 37]⟩ : ByteArray) (bt a0 x4_1) t369 _ A10.out).mono ?_); rintro e w' ⟨rfl, ⟨nd, rfl⟩⟩; refine ⟨_, rfl, ?_⟩))
                    go_meet
                    case rel => exact ⟨_, (t369), (by first | rfl | (simp; done) | (simp [*]; done)), H', ⟨by have := HK1.out; have := HJ2.out; first | omega | exact Nat.le_refl _⟩, ⟨by (with_reducible repeat (first | apply Kd.R_alloc | apply Kd.R_drewN | apply Kd.R_drew)); exact HO_3.out⟩, ⟨by repeat (first | (with_reducible first | exact HB.out | apply below_alloc | apply pw_below_drewN | apply below_drew1) | exact HB.out)⟩⟩
                  · rw [if_neg c8] at H
                    exact absurd H (by simp)
                · rw [if_neg c7] at H
                  exact absurd H (by simp)
              · replace c6 := Bool.eq_false_iff.mpr c6
                subst c6
                have H1 : (spec_OD39.j2 kj2 a0 x3_1 x4_1 43) = some r := by rw [if_neg (show ¬ (false = true) by decide)] at H; exact H
                clear H
                have H := H1
                clear H1
                have H' := Aside0.mk H
                clear H
                go_wp2
                go_meet
                case rel => exact ⟨_, (43), (by first | rfl | (simp; done) | (simp [*]; done)), H', ⟨by have := HK1.out; have := HJ2.out; first | omega | exact Nat.le_refl _⟩, ⟨by (with_reducible repeat (first | apply Kd.R_alloc | apply Kd.R_drewN | apply Kd.R_drew)); exact HO_3.out⟩, ⟨by repeat (first | (with_reducible first | exact HB.out | apply below_alloc | apply pw_below_drewN | apply below_drew1) | exact HB.out)⟩⟩
            case rest =>
              clear HC5
              try clear c2
              try clear c2b0
              try clear p2
              try clear c3
              try clear c4
              try clear c4b0
              try clear c6
              try clear c7
              try clear c7b0
              try clear c8
              try clear c8b0
              try clear p9
              try clear q9
              try clear hx9
              try clear p2
              try clear p9
              try clear q9
              obtain ⟨kq, x5_4, rfl, HA, HJ4, HO_3, HB⟩ := hcut
              cases kq with
              | zero => exact absurd HA.out (by simp [spec_OD39.j2])
              | succ kj4 =>
                have H := HA.out
                clear HA
                simp only [spec_OD39.j2] at H
                by_cases c11 : x4_1 ≥ 0
                · rw [if_pos c11] at H
                  have c11b0 : decide (0 ≤ x4_1) = true := decide_eq_true c11
                  clear c11
                  by_cases c12 : x3_1.length < 17592186044416
                  · rw [if_pos c12] at H
                    have LMc12 := Aside0.mk c12
                    clear c12
                    obtain ⟨y370, hy370⟩ : ∃ y_ : List Int, y_ = (x3_1 ++ [1]) := ⟨_, rfl⟩
                    replace H : ((spec_od39Bits.f x5_4).bind fun t373 => ((spec_odElements.f kj4 t373 9 2).bind fun t374 => (if y370.length + t374.length < 17592186044416 then (spec_OD39.l0 kj4 a0 (y370 ++ t374) (wrap64 (x4_1 + 1))) else (none)))) = some r := by first | (rw [hy370]; with_reducible exact H) | (have H2_ := (Option.bind_some _ _).symm.trans H; rw [hy370]; with_reducible exact H2_) | (have H2_ := (Option.bind_some _ _).symm.trans H; with_reducible exact H2_) | with_reducible exact H | (rw [hy370]; exact H) | exact H
                    have Ny370 := Aside0.mk hy370
                    clear hy370
                    replace H := Option.bind_eq_some_iff.mp H
                    obtain ⟨t373, A130, H⟩ := H
                    replace H : ((spec_odElements.f kj4 t373 9 2).bind fun t374 => (if y370.length + t374.length < 17592186044416 then (spec_OD39.l0 kj4 a0 (y370 ++ t374) (wrap64 (x4_1 + 1))) else (none))) = some r := H
                    have A13 := Aside0.mk A130
                    clear A130
                    replace H := Option.bind_eq_some_iff.mp H
                    obtain ⟨t374, A140, H⟩ := H
                    replace H : (if y370.length + t374.length < 17592186044416 then (spec_OD39.l0 kj4 a0 (y370 ++ t374) (wrap64 (x4_1 + 1))) else (none)) = some r := H
                    have A14 := Aside0.mk A140
                    clear A140
                    by_cases c15 : y370.length + t374.length < 17592186044416
                    · rw [if_pos c15] at H
                      have LMc15 := Aside0.mk c15
                      clear c15
                      obtain ⟨y377, hy377⟩ : ∃ y_ : List Int, y_ = (y370 ++ t374) := ⟨_, rfl⟩
                      replace H : (spec_OD39.l0 kj4 a0 y377 (wrap64 (x4_1 + 1))) = some r := by first | (rw [hy377]; with_reducible exact H) | (have H2_ := (Option.bind_some _ _).symm.trans H; rw [hy377]; with_reducible exact H2_) | (have H2_ := (Option.bind_some _ _).symm.trans H; with_reducible exact H2_) | with_reducible exact H | (rw [hy377]; exact H) | exact H
                      have Ny377 := Aside0.mk hy377
                      clear hy377
                      have H' := Aside0.mk H
                      clear H
                      go_wp2_with (first | ((with_reducible refine gate_builtin (b := .append) (xs := #[.tmp 26, .tmp 27]) rfl ?_); (try (refine gate_guard (by rfl) ?_; dsimp only)); at_builtin; refine Kd.R_append (Kd.int .i64) (w0 := w) w.heap.size rfl (.tmp 26) (.tmp 27) 40 3 (.int .i64 0) 8 rfl Tryz.underlying40 info3 rfl (by decide) (by omega) u3 x3_1 1 [.int .i64 1] (fun _ => True) (fun _ => False) rfl rfl ?aP (fun _ hk => hk.elim) ?aF ?aO ?aB ?aS ?aL ?_; (case aP => exact rfl); (case aB => exact (by repeat (first | (with_reducible first | exact HB.out | apply below_alloc | apply pw_below_drewN | apply below_drew1) | exact HB.out))); (case aF => exact (fun _ _ => trivial)); (case aO => exact (by (with_reducible repeat (first | apply Kd.R_alloc | apply Kd.R_drewN | apply Kd.R_drew)); exact HO_3.out)); (case aS => exact (below_size (by repeat (first | (with_reducible first | exact HB.out | apply below_alloc | apply pw_below_drewN | apply below_drew1) | exact HB.out)))); (case aL => have := LMc12.out; omega); intro v371 w16 ho hb hg hat; rw [← Ny370.out] at ho; have n0_ := Aside0.mk (hb); have n1_ := Aside0.mk (ho); clear HB; clear HO_3; have HB := n0_; have HO372 := n1_; clear n0_ n1_; clear ho hb hg hat) | ((with_reducible refine gate_callee (f := 47) rfl ?_); refine goesL_ (some 31) rfl rfl Tryz.func47 (by kernel_rfl) rfl #[.int .i64 x5_4] rfl (by (try simp only [List.map_toArray, List.map_cons, List.map_nil]); first | done | rfl | (simp only [List.length_drop, List.length_take]; rfl)) ?_; (with_reducible refine (spec_od39Bits.calls x5_4 t373 _ A13.out).mono ?_); rintro e w17 ⟨rfl, hb⟩; refine ⟨_, rfl, ?_⟩; have n0_ := Aside0.mk (Kd.R_below (by (with_reducible repeat (first | apply Kd.R_alloc | apply Kd.R_drewN | apply Kd.R_drew)); exact HO372.out) hb); have n1_ := Aside0.mk (below_step (by repeat (first | (with_reducible first | exact HB.out | apply below_alloc | apply pw_below_drewN | apply below_drew1) | exact HB.out)) hb); clear HO372; clear HB; have HO372 := n0_; have HB := n1_; clear n0_ n1_; (try clear hb); (try clear hb2); (try clear hk); (try clear hi)) | ((with_reducible refine gate_callee (f := 36) rfl ?_); refine goesL_ (some 32) rfl rfl Tryz.func36 (by kernel_rfl) rfl #[.int .i64 t373, .int .i64 9, .int .i64 2] rfl (by (try simp only [List.map_toArray, List.map_cons, List.map_nil]); first | done | rfl | (simp only [List.length_drop, List.length_take]; rfl)) ?_; (with_reducible refine (spec_odElements.calls kj4 t373 9 2 t374 _ A14.out).mono ?_); rintro e w18 ⟨v375, rfl, ho0, hb⟩; refine ⟨_, rfl, ?_⟩; have n0_ := Aside0.mk (Kd.R_elder' (by (with_reducible repeat (first | apply Kd.R_alloc | apply Kd.R_drewN | apply Kd.R_drew)); exact HO372.out) (Kd.R_base ho0) hb); have n1_ := Aside0.mk (Kd.R_lower (Kd.R_new' ho0 (Kd.R_lt (by (with_reducible repeat (first | apply Kd.R_alloc | apply Kd.R_drewN | apply Kd.R_drew)); exact HO372.out))) (below_size (by repeat (first | (with_reducible first | exact HB.out | apply below_alloc | apply pw_below_drewN | apply below_drew1) | exact HB.out)))); have n2_ := Aside0.mk (below_step (by repeat (first | (with_reducible first | exact HB.out | apply below_alloc | apply pw_below_drewN | apply below_drew1) | exact HB.out)) hb); clear HO372; clear HB; have HO372 := n0_; have HO376 := n1_; have HB := n2_; clear n0_ n1_ n2_; (try clear hb); (try clear hb2); (try clear hk); (try clear hi); (try clear ho0); obtain ⟨Ao20, co20, eo20⟩ := Kd.R_slice HO376.out; subst eo20) | ((with_reducible refine gate_builtin (b := .append) (xs := #[.tmp 29, .tmp 32]) rfl ?_); (try (refine gate_guard (by rfl) ?_; dsimp only)); at_builtin; refine Kd.R_append_rows (Kd.int .i64) (w0 := w) w.heap.size rfl (.tmp 29) (.tmp 32) 40 3 (.int .i64 0) 8 rfl Tryz.underlying40 info3 rfl (by decide) (by omega) v371 y370 t374 _ _ _ (fun k_ => some k_ ≠ (.slice Ao20 t374.length co20 : Value).ownBlock) (fun _ => False) rfl rfl ?aO ?aR (fun _ _ h => h) (fun _ h => h.elim) ?aF ?aB ?aS ?aL ?_; (case aR => repeat (first | exact (Kd.R_reads' HO376.out).2.2 | (with_reducible refine Kd.C_alloc ?_ _) | (with_reducible refine Kd.C_drewN ?_ _) | (with_reducible refine Kd.C_drew ?_))); (case aB => exact (by repeat (first | (with_reducible first | exact HB.out | apply below_alloc | apply pw_below_drewN | apply below_drew1) | exact HB.out))); (case aF => exact (fun k_ hk => Kd.fresh' (Kd.R_lt (by (with_reducible repeat (first | apply Kd.R_alloc | apply Kd.R_drewN | apply Kd.R_drew)); exact HO376.out)) k_ hk)); (case aO => exact (by (with_reducible repeat (first | apply Kd.R_alloc | apply Kd.R_drewN | apply Kd.R_drew)); exact Kd.R_mono HO372.out (fun _ hk => hk.2))); (case aS => exact (below_size (by repeat (first | (with_reducible first | exact HB.out | apply below_alloc | apply pw_below_drewN | apply below_drew1) | exact HB.out)))); (case aL => have := LMc15.out; omega); intro v378 w19 ho hb hg hat; rw [← Ny377.out] at ho; have n0_ := Aside0.mk (Kd.R_after (ok := (fun _ => True)) (by (with_reducible repeat (first | apply Kd.R_alloc | apply Kd.R_drewN | apply Kd.R_drew)); exact HO376.out) hg hat); have n1_ := Aside0.mk (hb); have n2_ := Aside0.mk (ho); clear HO376; clear HB; clear HO372; have HO376 := n0_; have HB := n1_; have HO379 := n2_; clear n0_ n1_ n2_; clear ho hb hg hat))
                      go_roundg kj4
                      case measure => have := HK1.out; have := HJ2.out; have := HJ4.out; omega
                      case rel => exact ⟨(y377), (wrap64 (x4_1 + 1)), (by first | rfl | (simp; done) | (simp [*]; done)), H', ⟨by have := HK1.out; have := HJ2.out; have := HJ4.out; omega⟩, ⟨by (with_reducible repeat (first | apply Kd.R_alloc | apply Kd.R_drewN | apply Kd.R_drew)); exact Kd.R_mono HO379.out (fun _ hk => trivial)⟩, ⟨by repeat (first | (with_reducible first | exact HB.out | apply below_alloc | apply pw_below_drewN | apply below_drew1) | exact HB.out)⟩⟩
                    · rw [if_neg c15] at H
                      exact absurd H (by simp)
                  · rw [if_neg c12] at H
                    exact absurd H (by simp)
                · rw [if_neg c11] at H
                  have c11b0 : decide (0 ≤ x4_1) = false := decide_eq_false c11
                  clear c11
                  replace H := Option.bind_eq_some_iff.mp H
                  obtain ⟨t380, A210, H⟩ := H
                  replace H : ((spec_odElements.f kj4 t380 9 2).bind fun t381 => (if x3_1.length + t381.length < 17592186044416 then (spec_OD39.l0 kj4 a0 (x3_1 ++ t381) (wrap64 (x4_1 + 1))) else (none))) = some r := H
                  have A21 := Aside0.mk A210
                  clear A210
                  replace H := Option.bind_eq_some_iff.mp H
                  obtain ⟨t381, A220, H⟩ := H
                  replace H : (if x3_1.length + t381.length < 17592186044416 then (spec_OD39.l0 kj4 a0 (x3_1 ++ t381) (wrap64 (x4_1 + 1))) else (none)) = some r := H
                  have A22 := Aside0.mk A220
                  clear A220
                  by_cases c23 : x3_1.length + t381.length < 17592186044416
                  · rw [if_pos c23] at H
                    have LMc23 := Aside0.mk c23
                    clear c23
                    obtain ⟨y384, hy384⟩ : ∃ y_ : List Int, y_ = (x3_1 ++ t381) := ⟨_, rfl⟩
                    replace H : (spec_OD39.l0 kj4 a0 y384 (wrap64 (x4_1 + 1))) = some r := by first | (rw [hy384]; with_reducible exact H) | (have H2_ := (Option.bind_some _ _).symm.trans H; rw [hy384]; with_reducible exact H2_) | (have H2_ := (Option.bind_some _ _).symm.trans H; with_reducible exact H2_) | with_reducible exact H | (rw [hy384]; exact H) | exact H
                    have Ny384 := Aside0.mk hy384
                    clear hy384
                    have H' := Aside0.mk H
                    clear H
                    go_wp2_with (first | ((with_reducible refine gate_callee (f := 47) rfl ?_); refine goesL_ (some 31) rfl rfl Tryz.func47 (by kernel_rfl) rfl #[.int .i64 x5_4] rfl (by (try simp only [List.map_toArray, List.map_cons, List.map_nil]); first | done | rfl | (simp only [List.length_drop, List.length_take]; rfl)) ?_; (with_reducible refine (spec_od39Bits.calls x5_4 t380 _ A21.out).mono ?_); rintro e w24 ⟨rfl, hb⟩; refine ⟨_, rfl, ?_⟩; have n0_ := Aside0.mk (Kd.R_below (by (with_reducible repeat (first | apply Kd.R_alloc | apply Kd.R_drewN | apply Kd.R_drew)); exact HO_3.out) hb); have n1_ := Aside0.mk (below_step (by repeat (first | (with_reducible first | exact HB.out | apply below_alloc | apply pw_below_drewN | apply below_drew1) | exact HB.out)) hb); clear HO_3; clear HB; have HO_3 := n0_; have HB := n1_; clear n0_ n1_; (try clear hb); (try clear hb2); (try clear hk); (try clear hi)) | ((with_reducible refine gate_callee (f := 36) rfl ?_); refine goesL_ (some 32) rfl rfl Tryz.func36 (by kernel_rfl) rfl #[.int .i64 t380, .int .i64 9, .int .i64 2] rfl (by (try simp only [List.map_toArray, List.map_cons, List.map_nil]); first | done | rfl | (simp only [List.length_drop, List.length_take]; rfl)) ?_; (with_reducible refine (spec_odElements.calls kj4 t380 9 2 t381 _ A22.out).mono ?_); rintro e w25 ⟨v382, rfl, ho0, hb⟩; refine ⟨_, rfl, ?_⟩; have n0_ := Aside0.mk (Kd.R_elder' (by (with_reducible repeat (first | apply Kd.R_alloc | apply Kd.R_drewN | apply Kd.R_drew)); exact HO_3.out) (Kd.R_base ho0) hb); have n1_ := Aside0.mk (Kd.R_lower (Kd.R_new' ho0 (Kd.R_lt (by (with_reducible repeat (first | apply Kd.R_alloc | apply Kd.R_drewN | apply Kd.R_drew)); exact HO_3.out))) (below_size (by repeat (first | (with_reducible first | exact HB.out | apply below_alloc | apply pw_below_drewN | apply below_drew1) | exact HB.out)))); have n2_ := Aside0.mk (below_step (by repeat (first | (with_reducible first | exact HB.out | apply below_alloc | apply pw_below_drewN | apply below_drew1) | exact HB.out)) hb); clear HO_3; clear HB; have HO_3 := n0_; have HO383 := n1_; have HB := n2_; clear n0_ n1_ n2_; (try clear hb); (try clear hb2); (try clear hk); (try clear hi); (try clear ho0); obtain ⟨Ao27, co27, eo27⟩ := Kd.R_slice HO383.out; subst eo27) | ((with_reducible refine gate_builtin (b := .append) (xs := #[.tmp 29, .tmp 32]) rfl ?_); (try (refine gate_guard (by rfl) ?_; dsimp only)); at_builtin; refine Kd.R_append_rows (Kd.int .i64) (w0 := w) w.heap.size rfl (.tmp 29) (.tmp 32) 40 3 (.int .i64 0) 8 rfl Tryz.underlying40 info3 rfl (by decide) (by omega) u3 x3_1 t381 _ _ _ (fun k_ => some k_ ≠ (.slice Ao27 t381.length co27 : Value).ownBlock) (fun _ => False) rfl rfl ?aO ?aR (fun _ _ h => h) (fun _ h => h.elim) ?aF ?aB ?aS ?aL ?_; (case aR => repeat (first | exact (Kd.R_reads' HO383.out).2.2 | (with_reducible refine Kd.C_alloc ?_ _) | (with_reducible refine Kd.C_drewN ?_ _) | (with_reducible refine Kd.C_drew ?_))); (case aB => exact (by repeat (first | (with_reducible first | exact HB.out | apply below_alloc | apply pw_below_drewN | apply below_drew1) | exact HB.out))); (case aF => exact (fun k_ hk => Kd.fresh' (Kd.R_lt (by (with_reducible repeat (first | apply Kd.R_alloc | apply Kd.R_drewN | apply Kd.R_drew)); exact HO383.out)) k_ hk)); (case aO => exact (by (with_reducible repeat (first | apply Kd.R_alloc | apply Kd.R_drewN | apply Kd.R_drew)); exact Kd.R_mono HO_3.out (fun _ hk => hk.2))); (case aS => exact (below_size (by repeat (first | (with_reducible first | exact HB.out | apply below_alloc | apply pw_below_drewN | apply below_drew1) | exact HB.out)))); (case aL => have := LMc23.out; omega); intro v385 w26 ho hb hg hat; rw [← Ny384.out] at ho; have n0_ := Aside0.mk (Kd.R_after (ok := (fun _ => True)) (by (with_reducible repeat (first | apply Kd.R_alloc | apply Kd.R_drewN | apply Kd.R_drew)); exact HO383.out) hg hat); have n1_ := Aside0.mk (hb); have n2_ := Aside0.mk (ho); clear HO383; clear HB; clear HO_3; have HO383 := n0_; have HB := n1_; have HO386 := n2_; clear n0_ n1_ n2_; clear ho hb hg hat))
                    go_roundg kj4
                    case measure => have := HK1.out; have := HJ2.out; have := HJ4.out; omega
                    case rel => exact ⟨(y384), (wrap64 (x4_1 + 1)), (by first | rfl | (simp; done) | (simp [*]; done)), H', ⟨by have := HK1.out; have := HJ2.out; have := HJ4.out; omega⟩, ⟨by (with_reducible repeat (first | apply Kd.R_alloc | apply Kd.R_drewN | apply Kd.R_drew)); exact Kd.R_mono HO386.out (fun _ hk => trivial)⟩, ⟨by repeat (first | (with_reducible first | exact HB.out | apply below_alloc | apply pw_below_drewN | apply below_drew1) | exact HB.out)⟩⟩
                  · rw [if_neg c23] at H
                    exact absurd H (by simp)
      · rw [if_neg c2] at H
        have c2b0 : decide (x4_1 ≤ (a0.size : Int)) = false := decide_eq_false c2
        clear c2
        replace H := Option.bind_eq_some_iff.mp H
        obtain ⟨t366, A280, H⟩ := H
        replace H : (some t366) = some r := H
        have A28 := Aside0.mk A280
        clear A280
        obtain rfl := Option.some.inj H
        obtain ⟨Ao29, co29, eo29⟩ := Kd.R_slice HO_3.out
        subst eo29
        go_wp2_with (first | ((with_reducible refine gate_callee (f := 38) rfl ?_); refine goesL_ (some 35) rfl rfl Tryz.func38 (by kernel_rfl) rfl #[.slice Ao29 x3_1.length co29] rfl (by (try simp only [List.map_toArray, List.map_cons, List.map_nil]); first | done | rfl | (simp only [List.length_drop, List.length_take]; rfl)) ?_; (with_reducible refine (spec_ODBars.calls k1 _ _ x3_1 t366 _ ?side1 ?side2 A28.out).mono ?_); (case side1 => repeat (first | exact (Kd.R_reads' HO_3.out).2.2 | (with_reducible refine Kd.C_alloc ?_ _) | (with_reducible refine Kd.C_drewN ?_ _) | (with_reducible refine Kd.C_drew ?_))); (case side2 => exact (Kd.R_reads' HO_3.out).2.1); rintro e w30 ⟨v367, rfl, ho0, hb⟩; refine ⟨_, rfl, ?_⟩; have n0_ := Aside0.mk (Kd.R_below (by (with_reducible repeat (first | apply Kd.R_alloc | apply Kd.R_drewN | apply Kd.R_drew)); exact HO_3.out) hb); have n1_ := Aside0.mk (Kd.R_lower ho0 (below_size (by repeat (first | (with_reducible first | exact HB.out | apply below_alloc | apply pw_below_drewN | apply below_drew1) | exact HB.out)))); have n2_ := Aside0.mk (below_step (by repeat (first | (with_reducible first | exact HB.out | apply below_alloc | apply pw_below_drewN | apply below_drew1) | exact HB.out)) hb); clear HO_3; clear HB; have HO_3 := n0_; have HO368 := n1_; have HB := n2_; clear n0_ n1_ n2_; (try clear hb); (try clear hb2); (try clear hk); (try clear hi); (try clear ho0)))
        go_ret
        exact ⟨_, by first | rfl | (simp [errW_none, errW_some] <;> rfl) | (simp [*, errW_none, errW_some] <;> rfl), by (with_reducible repeat (first | apply Kd.R_alloc | apply Kd.R_drewN | apply Kd.R_drew)); exact HO368.out, by repeat (first | (with_reducible first | exact HB.out | apply below_alloc | apply pw_below_drewN | apply below_drew1) | exact HB.out)⟩

-- NOT PRINTED: function 12 (laws_FnODWrites39)

-- NOT PRINTED: function 10 (laws_FnODUpcEWrite)

-- NOT PRINTED: function 8 (laws_FnODRefuses)

-- NOT PRINTED: function 100 (gozxing_newException)

-- NOT PRINTED: function 96 (gozxing_NewWriterException)

-- NOT PRINTED: function 113 (gozxing_wrapException)

-- NOT PRINTED: function 105 (gozxing_WrapWriterException)

/-! ### spec_ODAscii: function 13 -/
def spec_ODAscii.l0 : Nat → List Int → Int → List Int → Int → Option (ByteArray)
  | 0, _, _, _, _ => none
  | k + 1, x0, x1, x5, x6 => if x6 < (x0.length : Int) then (if x6 < x1 then (if 0 ≤ x6 then (if x5.length < 140737488355328 then (spec_ODAscii.l0 k x0 x1 (x5 ++ [Int.tmod (rd x0 x6) 128]) (wrap64 (x6 + 1))) else (none)) else (none)) else (some (strOfNums x5))) else (some (strOfNums x5))
def spec_ODAscii.f (k : Nat) (l0 : List Int) (a1 : Int) : Option (ByteArray) := spec_ODAscii.l0 k l0 a1 ([] : List Int) 0
theorem spec_ODAscii.mono_l : ∀ k, (∀ y0 y1 y2 y3, LeO (spec_ODAscii.l0 k y0 y1 y2 y3) (spec_ODAscii.l0 (k + 1) y0 y1 y2 y3))
  | 0 => fun _ _ _ _ r h => by simp [spec_ODAscii.l0] at h
  | k + 1 => by
    have ih0 := spec_ODAscii.mono_l k
    · intro y0 y1 y2 y3
      unfold spec_ODAscii.l0
      repeat' first
      | (with_reducible exact ih0 _ _ _ _)
      | (with_reducible exact LeO.refl _)
      | (with_reducible exact LeO.none _)
      | (with_reducible refine LeO.ite ?_ ?_)
      | (with_reducible refine LeO.bind ?_ (fun _ => ?_))
      | exact ih0 _ _ _ _
      | exact LeO.none _
      | refine LeO.ite ?_ ?_
      | refine LeO.bind ?_ (fun _ => ?_)
theorem spec_ODAscii.mono : ∀ a0 a1 k, LeO (spec_ODAscii.f k a0 a1) (spec_ODAscii.f (k + 1) a0 a1) := by
  intro a0 a1 k
  have ih0 := spec_ODAscii.mono_l k
  unfold spec_ODAscii.f
  repeat' first
      | (with_reducible exact ih0 _ _ _ _)
      | (with_reducible exact LeO.refl _)
      | (with_reducible exact LeO.none _)
      | (with_reducible refine LeO.ite ?_ ?_)
      | (with_reducible refine LeO.bind ?_ (fun _ => ?_))
      | exact ih0 _ _ _ _
      | exact LeO.none _
      | refine LeO.ite ?_ ?_
      | refine LeO.bind ?_ (fun _ => ?_)
set_option maxHeartbeats 8000000 in
set_option maxRecDepth 100000 in
theorem spec_ODAscii.calls (k : Nat) (A0 : Option Addr) (c0 : Nat) (l0 : List Int) (a1 : Int) (r : ByteArray) (w : World) (hr0 : Kd.C (Kd.int .u8) w A0 l0.length l0) (hc0 : l0.length ≤ c0) (h : spec_ODAscii.f k l0 a1 = some r) :
    Calls Tryz.prog 13 #[.slice A0 l0.length c0, .int .i64 a1] w fun e w' => e = .returned (.string r) ∧ Below w.heap.size w w' := by
  have HR0 := Aside0.mk hr0
  have HC0 := Aside0.mk hc0
  clear hr0 hc0
  have HB := Aside0.mk (Below.refl w.heap.size w)
  have H : (spec_ODAscii.l0 k l0 a1 ([] : List Int) 0) = some r := h
  clear h
  have H' := Aside0.mk H
  clear H
  go_enter Tryz.func13, Tryz.ntmps13
  go_wp2
  go_loopg [5, 6] k (fun kq v5 v6 w' => ∃ (x5_1 : List Int) (x6_1 : Int), v6 = .int .i64 x6_1 ∧ Aside0 (spec_ODAscii.l0 kq l0 a1 x5_1 x6_1 = some r) ∧ Aside0 (kq ≤ k) ∧ Aside0 (Kd.R (Kd.int .u8) 5 w' w.heap.size (fun _ => True) v5 x5_1) ∧ Aside0 (Below w.heap.size w w'))
  case atStart => exact ⟨(([] : List Int)), (0), (by first | rfl | (simp; done) | (simp [*]; done)), H', ⟨Nat.le_refl _⟩, ⟨by first | exact Kd.R_nil _ _ _ _ _ | exact Kd.N_nil _ _ _ _ _ | exact Kd.V_nil _ _ _ _ _ | exact Kd.Q_nil _ _ _ _ _ | exact Kd.S_nil _ _ _ _ _⟩, ⟨by repeat (first | (with_reducible first | exact HB.out | apply below_alloc | apply pw_below_drewN | apply below_drew1) | exact HB.out)⟩⟩
  case round =>
    clear H'
    try clear c1
    try clear p2
    obtain ⟨x5_1, x6_1, rfl, HA, HK1, HO_5, HB⟩ := hrel
    cases gk with
    | zero => exact absurd HA.out (by simp [spec_ODAscii.l0])
    | succ k1 =>
      have H := HA.out
      clear HA
      simp only [spec_ODAscii.l0] at H
      by_cases c3 : x6_1 < (l0.length : Int)
      · rw [if_pos c3] at H
        have c3b0 : decide (x6_1 < (l0.length : Int)) = true := decide_eq_true c3
        clear c3
        by_cases c4 : x6_1 < a1
        · rw [if_pos c4] at H
          have c4b0 : decide (x6_1 < a1) = true := decide_eq_true c4
          clear c4
          by_cases c5 : 0 ≤ x6_1
          · rw [if_pos c5] at H
            have c5b0 : decide (0 ≤ x6_1) = true := decide_eq_true c5
            clear c5
            by_cases c6 : x5_1.length < 140737488355328
            · rw [if_pos c6] at H
              have LMc6 := Aside0.mk c6
              clear c6
              obtain ⟨y102, hy102⟩ : ∃ y_ : List Int, y_ = (x5_1 ++ [Int.tmod (rd l0 x6_1) 128]) := ⟨_, rfl⟩
              replace H : (spec_ODAscii.l0 k1 l0 a1 y102 (wrap64 (x6_1 + 1))) = some r := by first | (rw [hy102]; with_reducible exact H) | (have H2_ := (Option.bind_some _ _).symm.trans H; rw [hy102]; with_reducible exact H2_) | (have H2_ := (Option.bind_some _ _).symm.trans H; with_reducible exact H2_) | with_reducible exact H | (rw [hy102]; exact H) | exact H
              have Ny102 := Aside0.mk hy102
              clear hy102
              have H' := Aside0.mk H
              clear H
              have p101 : 0 ≤ (x6_1 : Int) := of_decide_eq_true (by first | (with_reducible assumption) | assumption)
              have q101 : x6_1 < (l0.length : Int) := of_decide_eq_true (by first | (with_reducible assumption) | assumption)
              obtain ⟨ad101, e101, hx101_0⟩ := Kd.at_int HR0.out x6_1 p101 q101
              cases e101
              replace hx101_0 := (HB.out.cell (World.block_lt_of_cell? w _ hx101_0)).trans hx101_0
              replace p101 := eq_true p101
              replace q101 := eq_true q101
              go_wp2_with (first | ((with_reducible refine gate_builtin (b := .append) (xs := #[.tmp 18, .tmp 24]) rfl ?_); at_builtin; refine Kd.R_append (Kd.int .u8) (w0 := w) w.heap.size rfl (.tmp 18) (.tmp 24) 22 5 (.int .u8 0) 1 rfl Tryz.underlying22 info5 rfl (by decide) (by omega) u5 x5_1 (Int.tmod (rd l0 x6_1) 128) [.int .u8 (Int.tmod (rd l0 x6_1) 128)] (fun _ => True) (fun _ => False) rfl rfl ?aP (fun _ hk => hk.elim) ?aF ?aO ?aB ?aS ?aL ?_; (case aP => exact rfl); (case aB => exact (by repeat (first | (with_reducible first | exact HB.out | apply below_alloc | apply pw_below_drewN | apply below_drew1) | exact HB.out))); (case aF => exact (fun _ _ => trivial)); (case aO => exact (by (with_reducible repeat (first | apply Kd.R_alloc | apply Kd.R_drewN | apply Kd.R_drew)); exact HO_5.out)); (case aS => exact (below_size (by repeat (first | (with_reducible first | exact HB.out | apply below_alloc | apply pw_below_drewN | apply below_drew1) | exact HB.out)))); (case aL => have := LMc6.out; omega); intro v103 w7 ho hb hg hat; rw [← Ny102.out] at ho; have n0_ := Aside0.mk (hb); have n1_ := Aside0.mk (ho); clear HB; clear HO_5; have HB := n0_; have HO104 := n1_; clear n0_ n1_; clear ho hb hg hat))
              go_roundg k1
              case measure => have := HK1.out; omega
              case rel => exact ⟨(y102), (wrap64 (x6_1 + 1)), (by first | rfl | (simp; done) | (simp [*]; done)), H', ⟨by have := HK1.out; omega⟩, ⟨by (with_reducible repeat (first | apply Kd.R_alloc | apply Kd.R_drewN | apply Kd.R_drew)); exact HO104.out⟩, ⟨by repeat (first | (with_reducible first | exact HB.out | apply below_alloc | apply pw_below_drewN | apply below_drew1) | exact HB.out)⟩⟩
            · rw [if_neg c6] at H
              exact absurd H (by simp)
          · rw [if_neg c5] at H
            exact absurd H (by simp)
        · rw [if_neg c4] at H
          have c4b0 : decide (x6_1 < a1) = false := decide_eq_false c4
          clear c4
          obtain rfl := Option.some.inj H
          have hcv8 := own_string (P := Tryz.prog) Tryz.underlying22 Tryz.underlying5 Tryz.underlying9 (Kd.own_of_R HO_5.out)
          go_wp2
          go_ret
          exact ⟨by first | rfl | (simp [errW_none, errW_some] <;> rfl) | (simp [*, errW_none, errW_some] <;> rfl), by repeat (first | (with_reducible first | exact HB.out | apply below_alloc | apply pw_below_drewN | apply below_drew1) | exact HB.out)⟩
      · rw [if_neg c3] at H
        have c3b0 : decide (x6_1 < (l0.length : Int)) = false := decide_eq_false c3
        clear c3
        obtain rfl := Option.some.inj H
        have hcv9 := own_string (P := Tryz.prog) Tryz.underlying22 Tryz.underlying5 Tryz.underlying9 (Kd.own_of_R HO_5.out)
        go_wp2
        go_ret
        exact ⟨by first | rfl | (simp [errW_none, errW_some] <;> rfl) | (simp [*, errW_none, errW_some] <;> rfl), by repeat (first | (with_reducible first | exact HB.out | apply below_alloc | apply pw_below_drewN | apply below_drew1) | exact HB.out)⟩

/-! ### spec_OD93Checks: function 33 -/
mutual
def spec_OD93Checks.l0 : Nat → List Int → List Int → Int → Option (List Int)
  | 0, _, _, _ => none
  | k + 1, x0, x3, x4 => if x4 < 2 then (spec_OD93Checks.l1 k x0 x3 x4 (wrap64 (20 - (wrap64 (5 * x4)))) 0 0) else (if 0 ≤ (x0.length : Int) then (if (x0.length : Int) ≤ (x3.length : Int) then (some (x3.drop ((x0.length : Int) : Int).toNat)) else (none)) else (none))
def spec_OD93Checks.l1 : Nat → List Int → List Int → Int → Int → Int → Int → Option (List Int)
  | 0, _, _, _, _, _, _ => none
  | k + 1, x0, x3, x4, x5, x6, x7 => if x7 < (x3.length : Int) then (if 0 ≤ (wrap64 ((wrap64 ((x3.length : Int) - 1)) - x7)) then (if (wrap64 ((wrap64 ((x3.length : Int) - 1)) - x7)) < (x3.length : Int) then (if x5 = 0 then (none) else (spec_OD93Checks.l1 k x0 x3 x4 x5 (wrap64 (x6 + (wrap64 ((rd x3 (wrap64 ((wrap64 ((x3.length : Int) - 1)) - x7))) * (wrap64 (1 + (Int.tmod x7 x5))))))) (wrap64 (x7 + 1)))) else (none)) else (none)) else (if x3.length < 17592186044416 then (spec_OD93Checks.l0 k x0 (x3 ++ [Int.tmod x6 47]) (wrap64 (x4 + 1))) else (none))
end
def spec_OD93Checks.f (k : Nat) (l0 : List Int) : Option (List Int) := (some (([] : List Int) : List Int)).bind fun y128 => (if y128.length + l0.length < 17592186044416 then (spec_OD93Checks.l0 k l0 (y128 ++ l0) 0) else (none))
theorem spec_OD93Checks.mono_l : ∀ k, (∀ y0 y1 y2, LeO (spec_OD93Checks.l0 k y0 y1 y2) (spec_OD93Checks.l0 (k + 1) y0 y1 y2)) ∧ (∀ y0 y1 y2 y3 y4 y5, LeO (spec_OD93Checks.l1 k y0 y1 y2 y3 y4 y5) (spec_OD93Checks.l1 (k + 1) y0 y1 y2 y3 y4 y5))
  | 0 => ⟨fun _ _ _ r h => by simp [spec_OD93Checks.l0] at h, fun _ _ _ _ _ _ r h => by simp [spec_OD93Checks.l1] at h⟩
  | k + 1 => by
    obtain ⟨ih0, ih1⟩ := spec_OD93Checks.mono_l k
    refine ⟨?_, ?_⟩
    · intro y0 y1 y2
      unfold spec_OD93Checks.l0
      repeat' first
      | (with_reducible exact ih0 _ _ _)
      | (with_reducible exact ih1 _ _ _ _ _ _)
      | (with_reducible exact LeO.refl _)
      | (with_reducible exact LeO.none _)
      | (with_reducible refine LeO.ite ?_ ?_)
      | (with_reducible refine LeO.bind ?_ (fun _ => ?_))
      | exact ih0 _ _ _
      | exact ih1 _ _ _ _ _ _
      | exact LeO.none _
      | refine LeO.ite ?_ ?_
      | refine LeO.bind ?_ (fun _ => ?_)
    · intro y0 y1 y2 y3 y4 y5
      unfold spec_OD93Checks.l1
      repeat' first
      | (with_reducible exact ih0 _ _ _)
      | (with_reducible exact ih1 _ _ _ _ _ _)
      | (with_reducible exact LeO.refl _)
      | (with_reducible exact LeO.none _)
      | (with_reducible refine LeO.ite ?_ ?_)
      | (with_reducible refine LeO.bind ?_ (fun _ => ?_))
      | exact ih0 _ _ _
      | exact ih1 _ _ _ _ _ _
      | exact LeO.none _
      | refine LeO.ite ?_ ?_
      | refine LeO.bind ?_ (fun _ => ?_)
theorem spec_OD93Checks.mono : ∀ a0 k, LeO (spec_OD93Checks.f k a0) (spec_OD93Checks.f (k + 1) a0) := by
  intro a0 k
  obtain ⟨ih0, ih1⟩ := spec_OD93Checks.mono_l k
  unfold spec_OD93Checks.f
  repeat' first
      | (with_reducible exact ih0 _ _ _)
      | (with_reducible exact ih1 _ _ _ _ _ _)
      | (with_reducible exact LeO.refl _)
      | (with_reducible exact LeO.none _)
      | (with_reducible refine LeO.ite ?_ ?_)
      | (with_reducible refine LeO.bind ?_ (fun _ => ?_))
      | exact ih0 _ _ _
      | exact ih1 _ _ _ _ _ _
      | exact LeO.none _
      | refine LeO.ite ?_ ?_
      | refine LeO.bind ?_ (fun _ => ?_)
set_option maxHeartbeats 8000000 in
set_option maxRecDepth 100000 in
theorem spec_OD93Checks.calls (k : Nat) (A0 : Option Addr) (c0 : Nat) (l0 : List Int) (r : List Int) (w : World) (hr0 : Kd.C (Kd.int .i64) w A0 l0.length l0) (hc0 : l0.length ≤ c0) (h : spec_OD93Checks.f k l0 = some r) :
    Calls Tryz.prog 33 #[.slice A0 l0.length c0] w fun e w' => ∃ v0_ : Value, e = .returned (v0_) ∧ Kd.Q (Kd.int .i64) 3 w' w.heap.size (fun _ => True) v0_ r ∧ Below w.heap.size w w' := by
  have HR0 := Aside0.mk hr0
  have HC0 := Aside0.mk hc0
  clear hr0 hc0
  have HB := Aside0.mk (Below.refl w.heap.size w)
  have H : ((some (([] : List Int) : List Int)).bind fun y128 => (if y128.length + l0.length < 17592186044416 then (spec_OD93Checks.l0 k l0 (y128 ++ l0) 0) else (none))) = some r := h
  clear h
  obtain ⟨y128, hy128⟩ : ∃ y_ : List Int, y_ = (([] : List Int)) := ⟨_, rfl⟩
  replace H : (if y128.length + l0.length < 17592186044416 then (spec_OD93Checks.l0 k l0 (y128 ++ l0) 0) else (none)) = some r := by first | (rw [hy128]; with_reducible exact H) | (have H2_ := (Option.bind_some _ _).symm.trans H; rw [hy128]; with_reducible exact H2_) | (have H2_ := (Option.bind_some _ _).symm.trans H; with_reducible exact H2_) | with_reducible exact H | (rw [hy128]; exact H) | exact H
  have Ny128 := Aside0.mk hy128
  clear hy128
  by_cases c2 : y128.length + l0.length < 17592186044416
  · rw [if_pos c2] at H
    have LMc2 := Aside0.mk c2
    clear c2
    obtain ⟨y131, hy131⟩ : ∃ y_ : List Int, y_ = (y128 ++ l0) := ⟨_, rfl⟩
    replace H : (spec_OD93Checks.l0 k l0 y131 0) = some r := by first | (rw [hy131]; with_reducible exact H) | (have H2_ := (Option.bind_some _ _).symm.trans H; rw [hy131]; with_reducible exact H2_) | (have H2_ := (Option.bind_some _ _).symm.trans H; with_reducible exact H2_) | with_reducible exact H | (rw [hy131]; exact H) | exact H
    have Ny131 := Aside0.mk hy131
    clear hy131
    have H' := Aside0.mk H
    clear H
    go_enter Tryz.func33, Tryz.ntmps33
    go_wp2_with (first | ((with_reducible refine gate_dst (N := 8) rfl ?_); refine Kd.R_lit (Kd.int .i64) _ 3 ?hg (N := 8) ?hd (xs := ([] : List Int)) (inner := []) (ok := fun _ => True) (okp := fun _ => True) ?hr ?hp (fun _ hk => hk) trivial (Below.refl _ _) (Nat.le_refl _) (by simp) ?_; (case hd => rfl); (case hg => rfl); (case hr => first | (go_simp; done) | (go_simp; rfl)); (case hp => exact (Reps.none _ _)); intro v129 w3 ho4 hb hg_ hnew_; clear hg_ hnew_; (first | rw [← Ny128.out] at ho4 | (simp only [Int.reduceToNat] at ho4; rw [← Ny128.out] at ho4)); have n0_ := Aside0.mk (Kd.R_lower ho4 (below_size (by repeat (first | (with_reducible first | exact HB.out | apply below_alloc | apply pw_below_drewN | apply below_drew1) | exact HB.out)))); have n1_ := Aside0.mk (below_step (by repeat (first | (with_reducible first | exact HB.out | apply below_alloc | apply pw_below_drewN | apply below_drew1) | exact HB.out)) hb); clear HB; have HO130 := n0_; have HB := n1_; clear n0_ n1_; clear hb ho4) | ((with_reducible refine gate_builtin (b := .append) (xs := #[.tmp 8, .tmp 9]) rfl ?_); at_builtin; refine Kd.R_append_rows (Kd.int .i64) (w0 := w) w.heap.size rfl (.tmp 8) (.tmp 9) 40 3 (.int .i64 0) 8 rfl Tryz.underlying40 info3 rfl (by decide) (by omega) v129 y128 l0 _ _ _ (fun _ => True) (fun _ => False) rfl rfl ?aO ?aR (fun _ _ h => h) (fun _ h => h.elim) ?aF ?aB ?aS ?aL ?_; (case aR => repeat (first | exact (Kd.C_below HR0.out HB.out) | (with_reducible refine Kd.C_alloc ?_ _) | (with_reducible refine Kd.C_drewN ?_ _) | (with_reducible refine Kd.C_drew ?_))); (case aB => exact (by repeat (first | (with_reducible first | exact HB.out | apply below_alloc | apply pw_below_drewN | apply below_drew1) | exact HB.out))); (case aF => exact (fun _ _ => trivial)); (case aO => exact (by (with_reducible repeat (first | apply Kd.R_alloc | apply Kd.R_drewN | apply Kd.R_drew)); exact HO130.out)); (case aS => exact (below_size (by repeat (first | (with_reducible first | exact HB.out | apply below_alloc | apply pw_below_drewN | apply below_drew1) | exact HB.out)))); (case aL => have := LMc2.out; omega); intro v132 w5 ho hb hg hat; rw [← Ny131.out] at ho; have n0_ := Aside0.mk (hb); have n1_ := Aside0.mk (ho); clear HB; clear HO130; have HB := n0_; have HO133 := n1_; clear n0_ n1_; clear ho hb hg hat))
    repeat (go_quiet (first | ((with_reducible refine gate_dst (N := 8) rfl ?_); refine Kd.R_lit (Kd.int .i64) _ 3 ?hg (N := 8) ?hd (xs := ([] : List Int)) (inner := []) (ok := fun _ => True) (okp := fun _ => True) ?hr ?hp (fun _ hk => hk) trivial (Below.refl _ _) (Nat.le_refl _) (by simp) ?_; (case hd => rfl); (case hg => rfl); (case hr => first | (go_simp; done) | (go_simp; rfl)); (case hp => exact (Reps.none _ _)); intro v129 w3 ho4 hb hg_ hnew_; clear hg_ hnew_; (first | rw [← Ny128.out] at ho4 | (simp only [Int.reduceToNat] at ho4; rw [← Ny128.out] at ho4)); have n0_ := Aside0.mk (Kd.R_lower ho4 (below_size (by repeat (first | (with_reducible first | exact HB.out | apply below_alloc | apply pw_below_drewN | apply below_drew1) | exact HB.out)))); have n1_ := Aside0.mk (below_step (by repeat (first | (with_reducible first | exact HB.out | apply below_alloc | apply pw_below_drewN | apply below_drew1) | exact HB.out)) hb); clear HB; have HO130 := n0_; have HB := n1_; clear n0_ n1_; clear hb ho4) | ((with_reducible refine gate_builtin (b := .append) (xs := #[.tmp 8, .tmp 9]) rfl ?_); at_builtin; refine Kd.R_append_rows (Kd.int .i64) (w0 := w) w.heap.size rfl (.tmp 8) (.tmp 9) 40 3 (.int .i64 0) 8 rfl Tryz.underlying40 info3 rfl (by decide) (by omega) v129 y128 l0 _ _ _ (fun _ => True) (fun _ => False) rfl rfl ?aO ?aR (fun _ _ h => h) (fun _ h => h.elim) ?aF ?aB ?aS ?aL ?_; (case aR => repeat (first | exact (Kd.C_below HR0.out HB.out) | (with_reducible refine Kd.C_alloc ?_ _) | (with_reducible refine Kd.C_drewN ?_ _) | (with_reducible refine Kd.C_drew ?_))); (case aB => exact (by repeat (first | (with_reducible first | exact HB.out | apply below_alloc | apply pw_below_drewN | apply below_drew1) | exact HB.out))); (case aF => exact (fun _ _ => trivial)); (case aO => exact (by (with_reducible repeat (first | apply Kd.R_alloc | apply Kd.R_drewN | apply Kd.R_drew)); exact HO130.out)); (case aS => exact (below_size (by repeat (first | (with_reducible first | exact HB.out | apply below_alloc | apply pw_below_drewN | apply below_drew1) | exact HB.out)))); (case aL => have := LMc2.out; omega); intro v132 w5 ho hb hg hat; rw [← Ny131.out] at ho; have n0_ := Aside0.mk (hb); have n1_ := Aside0.mk (ho); clear HB; clear HO130; have HB := n0_; have HO133 := n1_; clear n0_ n1_; clear ho hb hg hat)); try go_wp2_with (first | ((with_reducible refine gate_dst (N := 8) rfl ?_); refine Kd.R_lit (Kd.int .i64) _ 3 ?hg (N := 8) ?hd (xs := ([] : List Int)) (inner := []) (ok := fun _ => True) (okp := fun _ => True) ?hr ?hp (fun _ hk => hk) trivial (Below.refl _ _) (Nat.le_refl _) (by simp) ?_; (case hd => rfl); (case hg => rfl); (case hr => first | (go_simp; done) | (go_simp; rfl)); (case hp => exact (Reps.none _ _)); intro v129 w3 ho4 hb hg_ hnew_; clear hg_ hnew_; (first | rw [← Ny128.out] at ho4 | (simp only [Int.reduceToNat] at ho4; rw [← Ny128.out] at ho4)); have n0_ := Aside0.mk (Kd.R_lower ho4 (below_size (by repeat (first | (with_reducible first | exact HB.out | apply below_alloc | apply pw_below_drewN | apply below_drew1) | exact HB.out)))); have n1_ := Aside0.mk (below_step (by repeat (first | (with_reducible first | exact HB.out | apply below_alloc | apply pw_below_drewN | apply below_drew1) | exact HB.out)) hb); clear HB; have HO130 := n0_; have HB := n1_; clear n0_ n1_; clear hb ho4) | ((with_reducible refine gate_builtin (b := .append) (xs := #[.tmp 8, .tmp 9]) rfl ?_); at_builtin; refine Kd.R_append_rows (Kd.int .i64) (w0 := w) w.heap.size rfl (.tmp 8) (.tmp 9) 40 3 (.int .i64 0) 8 rfl Tryz.underlying40 info3 rfl (by decide) (by omega) v129 y128 l0 _ _ _ (fun _ => True) (fun _ => False) rfl rfl ?aO ?aR (fun _ _ h => h) (fun _ h => h.elim) ?aF ?aB ?aS ?aL ?_; (case aR => repeat (first | exact (Kd.C_below HR0.out HB.out) | (with_reducible refine Kd.C_alloc ?_ _) | (with_reducible refine Kd.C_drewN ?_ _) | (with_reducible refine Kd.C_drew ?_))); (case aB => exact (by repeat (first | (with_reducible first | exact HB.out | apply below_alloc | apply pw_below_drewN | apply below_drew1) | exact HB.out))); (case aF => exact (fun _ _ => trivial)); (case aO => exact (by (with_reducible repeat (first | apply Kd.R_alloc | apply Kd.R_drewN | apply Kd.R_drew)); exact HO130.out)); (case aS => exact (below_size (by repeat (first | (with_reducible first | exact HB.out | apply below_alloc | apply pw_below_drewN | apply below_drew1) | exact HB.out)))); (case aL => have := LMc2.out; omega); intro v132 w5 ho hb hg hat; rw [← Ny131.out] at ho; have n0_ := Aside0.mk (hb); have n1_ := Aside0.mk (ho); clear HB; clear HO130; have HB := n0_; have HO133 := n1_; clear n0_ n1_; clear ho hb hg hat)))
    go_loopg [3, 4] k (fun kq v3 v4 w' => ∃ (x3_1 : List Int) (x4_1 : Int), v4 = .int .i64 x4_1 ∧ Aside0 (spec_OD93Checks.l0 kq l0 x3_1 x4_1 = some r) ∧ Aside0 (kq ≤ k) ∧ Aside0 (Kd.R (Kd.int .i64) 3 w' w.heap.size (fun _ => True) v3 x3_1) ∧ Aside0 (Below w.heap.size w w'))
    case atStart => exact ⟨(y131), (0), (by first | rfl | (simp; done) | (simp [*]; done)), H', ⟨Nat.le_refl _⟩, ⟨by (with_reducible repeat (first | apply Kd.R_alloc | apply Kd.R_drewN | apply Kd.R_drew)); exact HO133.out⟩, ⟨by repeat (first | (with_reducible first | exact HB.out | apply below_alloc | apply pw_below_drewN | apply below_drew1) | exact HB.out)⟩⟩
    case round =>
      clear H'
      try clear c2
      try clear p2
      try clear c3
      obtain ⟨x3_1, x4_1, rfl, HA, HK1, HO_3, HB⟩ := hrel
      cases gk with
      | zero => exact absurd HA.out (by simp [spec_OD93Checks.l0])
      | succ k1 =>
        have H := HA.out
        clear HA
        simp only [spec_OD93Checks.l0] at H
        by_cases c6 : x4_1 < 2
        · rw [if_pos c6] at H
          have c6b0 : decide (x4_1 < 2) = true := decide_eq_true c6
          clear c6
          have H' := Aside0.mk H
          clear H
          go_wp2
          repeat (go_quiet (fail); try go_wp2)
          go_loopg [6, 7] k1 (fun kq v6 v7 w' => ∃ (x6_2 : Int) (x7_2 : Int), v6 = .int .i64 x6_2 ∧ v7 = .int .i64 x7_2 ∧ Aside0 (spec_OD93Checks.l1 kq l0 x3_1 x4_1 (wrap64 (20 - (wrap64 (5 * x4_1)))) x6_2 x7_2 = some r) ∧ Aside0 (kq ≤ k1) ∧ Aside0 (Kd.R (Kd.int .i64) 3 w' w.heap.size (fun _ => True) u3 x3_1) ∧ Aside0 (Below w.heap.size w w'))
          case atStart => exact ⟨(0), (0), (by first | rfl | (simp; done) | (simp [*]; done)), (by first | rfl | (simp; done) | (simp [*]; done)), H', ⟨Nat.le_refl _⟩, ⟨by (with_reducible repeat (first | apply Kd.R_alloc | apply Kd.R_drewN | apply Kd.R_drew)); exact HO_3.out⟩, ⟨by repeat (first | (with_reducible first | exact HB.out | apply below_alloc | apply pw_below_drewN | apply below_drew1) | exact HB.out)⟩⟩
          case round =>
            clear H'
            try clear c2
            try clear p2
            try clear c3
            try clear c6
            try clear c6b0
            try clear p6
            try clear p2
            obtain ⟨x6_2, x7_2, rfl, rfl, HA, HK2, HO_3, HB⟩ := hrel
            cases gk with
            | zero => exact absurd HA.out (by simp [spec_OD93Checks.l1])
            | succ k2 =>
              have H := HA.out
              clear HA
              simp only [spec_OD93Checks.l1] at H
              by_cases c7 : x7_2 < (x3_1.length : Int)
              · rw [if_pos c7] at H
                have c7b0 : decide (x7_2 < (x3_1.length : Int)) = true := decide_eq_true c7
                clear c7
                obtain ⟨ji8, hji8⟩ : ∃ j_ : Int, (wrap64 ((wrap64 ((x3_1.length : Int) - 1)) - x7_2)) = j_ := ⟨_, rfl⟩
                replace H : (if 0 ≤ (ji8) then (if (ji8) < (x3_1.length : Int) then (if (wrap64 (20 - (wrap64 (5 * x4_1)))) = 0 then (none) else (spec_OD93Checks.l1 k2 l0 x3_1 x4_1 (wrap64 (20 - (wrap64 (5 * x4_1)))) (wrap64 (x6_2 + (wrap64 ((rd x3_1 (ji8)) * (wrap64 (1 + (Int.tmod x7_2 (wrap64 (20 - (wrap64 (5 * x4_1))))))))))) (wrap64 (x7_2 + 1)))) else (none)) else (none)) = some r := by first | (rw [hji8] at H; exact H) | (simp only [hji8] at H ⊢; exact H)
                have hji8w : (IntKind.i64.wrap ((wrap64 ((x3_1.length : Int) - 1)) - x7_2)) = ji8 := (i64_w _).trans hji8
                by_cases c9 : 0 ≤ (ji8)
                · rw [if_pos c9] at H
                  have c9b0 : decide (0 ≤ (ji8)) = true := decide_eq_true c9
                  clear c9
                  by_cases c10 : (ji8) < (x3_1.length : Int)
                  · rw [if_pos c10] at H
                    have c10b0 : decide ((ji8) < (x3_1.length : Int)) = true := decide_eq_true c10
                    clear c10
                    by_cases c11 : (wrap64 (20 - (wrap64 (5 * x4_1)))) = 0
                    · rw [if_pos c11] at H
                      exact absurd H (by simp)
                    · rw [if_neg c11] at H
                      have c11b0 : ((wrap64 (20 - (wrap64 (5 * x4_1)))) == 0) = false := beq_eq_false_iff_ne.mpr c11
                      have c11b1 : ((wrap64 (20 - (wrap64 (5 * x4_1)))) != 0) = true := bne_iff_ne.mpr c11
                      have H' := Aside0.mk H
                      clear H
                      obtain ⟨Ao12, co12, eo12⟩ := Kd.R_slice HO_3.out
                      subst eo12
                      have p137 : 0 ≤ ((ji8) : Int) := of_decide_eq_true (by first | (with_reducible assumption) | assumption)
                      have q137 : (ji8) < (x3_1.length : Int) := of_decide_eq_true (by first | (with_reducible assumption) | assumption)
                      obtain ⟨ad137, e137, hx137_0⟩ := Kd.at_int (Kd.R_reads' HO_3.out).2.2 (ji8) p137 q137
                      cases e137
                      replace p137 := eq_true p137
                      replace q137 := eq_true q137
                      go_wp2
                      repeat (go_quiet (fail); try go_wp2)
                      go_roundg k2
                      case measure => have := HK1.out; have := HK2.out; omega
                      case rel => exact ⟨(wrap64 (x6_2 + (wrap64 ((rd x3_1 (ji8)) * (wrap64 (1 + (Int.tmod x7_2 (wrap64 (20 - (wrap64 (5 * x4_1))))))))))), (wrap64 (x7_2 + 1)), (by first | rfl | (simp; done) | (simp only [← hji8] <;> (first | rfl | simp)) | (simp [*]; done)), (by first | rfl | (simp; done) | (simp [*]; done)), H', ⟨by have := HK1.out; have := HK2.out; omega⟩, ⟨by (with_reducible repeat (first | apply Kd.R_alloc | apply Kd.R_drewN | apply Kd.R_drew)); exact HO_3.out⟩, ⟨by repeat (first | (with_reducible first | exact HB.out | apply below_alloc | apply pw_below_drewN | apply below_drew1) | exact HB.out)⟩⟩
                  · rw [if_neg c10] at H
                    exact absurd H (by simp)
                · rw [if_neg c9] at H
                  exact absurd H (by simp)
              · rw [if_neg c7] at H
                have c7b0 : decide (x7_2 < (x3_1.length : Int)) = false := decide_eq_false c7
                clear c7
                by_cases c13 : x3_1.length < 17592186044416
                · rw [if_pos c13] at H
                  have LMc13 := Aside0.mk c13
                  clear c13
                  obtain ⟨y138, hy138⟩ : ∃ y_ : List Int, y_ = (x3_1 ++ [Int.tmod x6_2 47]) := ⟨_, rfl⟩
                  replace H : (spec_OD93Checks.l0 k2 l0 y138 (wrap64 (x4_1 + 1))) = some r := by first | (rw [hy138]; with_reducible exact H) | (have H2_ := (Option.bind_some _ _).symm.trans H; rw [hy138]; with_reducible exact H2_) | (have H2_ := (Option.bind_some _ _).symm.trans H; with_reducible exact H2_) | with_reducible exact H | (rw [hy138]; exact H) | exact H
                  have Ny138 := Aside0.mk hy138
                  clear hy138
                  have H' := Aside0.mk H
                  clear H
                  obtain ⟨Ao14, co14, eo14⟩ := Kd.R_slice HO_3.out
                  subst eo14
                  go_wp2_with (first | ((with_reducible refine gate_builtin (b := .append) (xs := #[.tmp 39, .tmp 42]) rfl ?_); at_builtin; refine Kd.R_append (Kd.int .i64) (w0 := w) w.heap.size rfl (.tmp 39) (.tmp 42) 40 3 (.int .i64 0) 8 rfl Tryz.underlying40 info3 rfl (by decide) (by omega) (.slice Ao14 x3_1.length co14) x3_1 (Int.tmod x6_2 47) [.int .i64 (Int.tmod x6_2 47)] (fun _ => True) (fun _ => False) rfl rfl ?aP (fun _ hk => hk.elim) ?aF ?aO ?aB ?aS ?aL ?_; (case aP => exact rfl); (case aB => exact (by repeat (first | (with_reducible first | exact HB.out | apply below_alloc | apply pw_below_drewN | apply below_drew1) | exact HB.out))); (case aF => exact (fun _ _ => trivial)); (case aO => exact (by (with_reducible repeat (first | apply Kd.R_alloc | apply Kd.R_drewN | apply Kd.R_drew)); exact HO_3.out)); (case aS => exact (below_size (by repeat (first | (with_reducible first | exact HB.out | apply below_alloc | apply pw_below_drewN | apply below_drew1) | exact HB.out)))); (case aL => have := LMc13.out; omega); intro v139 w15 ho hb hg hat; rw [← Ny138.out] at ho; have n0_ := Aside0.mk (hb); have n1_ := Aside0.mk (ho); clear HB; clear HO_3; have HB := n0_; have HO140 := n1_; clear n0_ n1_; clear ho hb hg hat))
                  repeat (go_quiet (first | ((with_reducible refine gate_builtin (b := .append) (xs := #[.tmp 39, .tmp 42]) rfl ?_); at_builtin; refine Kd.R_append (Kd.int .i64) (w0 := w) w.heap.size rfl (.tmp 39) (.tmp 42) 40 3 (.int .i64 0) 8 rfl Tryz.underlying40 info3 rfl (by decide) (by omega) (.slice Ao14 x3_1.length co14) x3_1 (Int.tmod x6_2 47) [.int .i64 (Int.tmod x6_2 47)] (fun _ => True) (fun _ => False) rfl rfl ?aP (fun _ hk => hk.elim) ?aF ?aO ?aB ?aS ?aL ?_; (case aP => exact rfl); (case aB => exact (by repeat (first | (with_reducible first | exact HB.out | apply below_alloc | apply pw_below_drewN | apply below_drew1) | exact HB.out))); (case aF => exact (fun _ _ => trivial)); (case aO => exact (by (with_reducible repeat (first | apply Kd.R_alloc | apply Kd.R_drewN | apply Kd.R_drew)); exact HO_3.out)); (case aS => exact (below_size (by repeat (first | (with_reducible first | exact HB.out | apply below_alloc | apply pw_below_drewN | apply below_drew1) | exact HB.out)))); (case aL => have := LMc13.out; omega); intro v139 w15 ho hb hg hat; rw [← Ny138.out] at ho; have n0_ := Aside0.mk (hb); have n1_ := Aside0.mk (ho); clear HB; clear HO_3; have HB := n0_; have HO140 := n1_; clear n0_ n1_; clear ho hb hg hat)); try go_wp2_with (first | ((with_reducible refine gate_builtin (b := .append) (xs := #[.tmp 39, .tmp 42]) rfl ?_); at_builtin; refine Kd.R_append (Kd.int .i64) (w0 := w) w.heap.size rfl (.tmp 39) (.tmp 42) 40 3 (.int .i64 0) 8 rfl Tryz.underlying40 info3 rfl (by decide) (by omega) (.slice Ao14 x3_1.length co14) x3_1 (Int.tmod x6_2 47) [.int .i64 (Int.tmod x6_2 47)] (fun _ => True) (fun _ => False) rfl rfl ?aP (fun _ hk => hk.elim) ?aF ?aO ?aB ?aS ?aL ?_; (case aP => exact rfl); (case aB => exact (by repeat (first | (with_reducible first | exact HB.out | apply below_alloc | apply pw_below_drewN | apply below_drew1) | exact HB.out))); (case aF => exact (fun _ _ => trivial)); (case aO => exact (by (with_reducible repeat (first | apply Kd.R_alloc | apply Kd.R_drewN | apply Kd.R_drew)); exact HO_3.out)); (case aS => exact (below_size (by repeat (first | (with_reducible first | exact HB.out | apply below_alloc | apply pw_below_drewN | apply below_drew1) | exact HB.out)))); (case aL => have := LMc13.out; omega); intro v139 w15 ho hb hg hat; rw [← Ny138.out] at ho; have n0_ := Aside0.mk (hb); have n1_ := Aside0.mk (ho); clear HB; clear HO_3; have HB := n0_; have HO140 := n1_; clear n0_ n1_; clear ho hb hg hat)))
                  go_roundg k2
                  case measure => have := HK1.out; have := HK2.out; omega
                  case rel => exact ⟨(y138), (wrap64 (x4_1 + 1)), (by first | rfl | (simp; done) | (simp [*]; done)), H', ⟨by have := HK1.out; have := HK2.out; omega⟩, ⟨by (with_reducible repeat (first | apply Kd.R_alloc | apply Kd.R_drewN | apply Kd.R_drew)); exact HO140.out⟩, ⟨by repeat (first | (with_reducible first | exact HB.out | apply below_alloc | apply pw_below_drewN | apply below_drew1) | exact HB.out)⟩⟩
                · rw [if_neg c13] at H
                  exact absurd H (by simp)
        · rw [if_neg c6] at H
          have c6b0 : decide (x4_1 < 2) = false := decide_eq_false c6
          clear c6
          by_cases c16 : 0 ≤ (l0.length : Int)
          · rw [if_pos c16] at H
            have c16b0 := eq_true c16
            have c16b1 : decide (0 ≤ (l0.length : Int)) = true := decide_eq_true c16
            clear c16
            by_cases c17 : (l0.length : Int) ≤ (x3_1.length : Int)
            · rw [if_pos c17] at H
              have c17b0 := eq_true c17
              have c17b1 : decide ((l0.length : Int) ≤ (x3_1.length : Int)) = true := decide_eq_true c17
              clear c17
              obtain ⟨y134, hy134⟩ : ∃ y_ : List Int, y_ = (x3_1.drop ((l0.length : Int) : Int).toNat) := ⟨_, rfl⟩
              replace H : (some y134) = some r := by first | (rw [hy134]; with_reducible exact H) | (have H2_ := (Option.bind_some _ _).symm.trans H; rw [hy134]; with_reducible exact H2_) | (have H2_ := (Option.bind_some _ _).symm.trans H; with_reducible exact H2_) | with_reducible exact H | (rw [hy134]; exact H) | exact H
              have Ny134 := Aside0.mk hy134
              clear hy134
              obtain rfl := Option.some.inj H
              obtain ⟨Ao18, co18, eo18⟩ := Kd.R_slice HO_3.out
              subst eo18
              have q19 : ((l0.length : Int) : Int) ≤ ((x3_1.length : Int) : Int) := of_decide_eq_true (by first | (with_reducible assumption) | assumption)
              obtain ⟨i019, hi019, _, hsz19, _⟩ := info_parts info3
              have hcut19 := cut_from (P := Tryz.prog) 40 3 .i64 Tryz.underlying40 hi019 1 hsz19 Ao18 x3_1.length co18 (l0.length : Int) (of_decide_eq_true (by first | (with_reducible assumption) | assumption)) q19
              have hr19 := Kd.Q_drop (k := ((l0.length : Int) : Int).toNat) (Kd.Q_of_R HO_3.out) (by omega)
              obtain ⟨A19, hA19⟩ : ∃ A1, A1 = (if co18 = ((l0.length : Int) : Int).toNat then Ao18 else (Ao18 : Option Addr).map (·.add (((l0.length : Int) : Int).toNat * 1))) := ⟨_, rfl⟩
              obtain ⟨c19, hc19⟩ : ∃ c1, c1 = co18 - ((l0.length : Int) : Int).toNat := ⟨_, rfl⟩
              have hy19 : y134.length = x3_1.length - ((l0.length : Int) : Int).toNat := (by rw [Ny134.out, List.length_drop])
              rw [← Ny134.out] at hr19
              rw [← hy19, ← hA19, ← hc19] at hcut19
              replace hr19 : Kd.Q (Kd.int .i64) 3 wr w.heap.size (fun _ => True) (.slice A19 y134.length c19) y134 := (by rw [hA19, hc19, hy19]; exact hr19)
              clear hy19 hi019 hsz19 HO_3 hA19 hc19
              have HO136 := Aside0.mk hr19
              clear hr19
              replace q19 := eq_true q19
              go_wp2
              repeat (go_quiet (fail); try go_wp2)
              go_ret
              exact ⟨_, by first | rfl | (simp [errW_none, errW_some] <;> rfl) | (simp [*, errW_none, errW_some] <;> rfl), by (with_reducible repeat (first | apply Kd.Q_alloc | apply Kd.Q_drewN | apply Kd.Q_drew)); exact HO136.out, by repeat (first | (with_reducible first | exact HB.out | apply below_alloc | apply pw_below_drewN | apply below_drew1) | exact HB.out)⟩
            · rw [if_neg c17] at H
              exact absurd H (by simp)
          · rw [if_neg c16] at H
            exact absurd H (by simp)
  · rw [if_neg c2] at H
    exact absurd H (by simp)

/-! ### spec_od93Bits: function 34 -/
def spec_od93Bits.f (a0 : Int) : Option (Int) := (some (([276, 328, 324, 322, 296, 292, 290, 336, 274, 266, 424, 420, 418, 404, 402, 394, 360, 356, 354, 308, 282, 344, 332, 326, 300, 278, 436, 434, 428, 422, 406, 410, 364, 358, 310, 314, 302, 468, 466, 458, 366, 374, 430, 294, 474, 470, 306, 350] : List Int) : List Int)).bind fun y141 => (if 0 ≤ a0 then (if a0 < (y141.length : Int) then (some (rd y141 a0)) else (none)) else (none))
set_option maxHeartbeats 8000000 in
set_option maxRecDepth 100000 in
theorem spec_od93Bits.calls (a0 : Int) (r : Int) (w : World) (h : spec_od93Bits.f a0 = some r) :
    Calls Tryz.prog 34 #[.int .i64 a0] w fun e w' => e = .returned (.int .i64 r) ∧ Below w.heap.size w w' := by
  have HB := Aside0.mk (Below.refl w.heap.size w)
  have H : ((some (([276, 328, 324, 322, 296, 292, 290, 336, 274, 266, 424, 420, 418, 404, 402, 394, 360, 356, 354, 308, 282, 344, 332, 326, 300, 278, 436, 434, 428, 422, 406, 410, 364, 358, 310, 314, 302, 468, 466, 458, 366, 374, 430, 294, 474, 470, 306, 350] : List Int) : List Int)).bind fun y141 => (if 0 ≤ a0 then (if a0 < (y141.length : Int) then (some (rd y141 a0)) else (none)) else (none))) = some r := h
  clear h
  obtain ⟨y141, hy141⟩ : ∃ y_ : List Int, y_ = (([276, 328, 324, 322, 296, 292, 290, 336, 274, 266, 424, 420, 418, 404, 402, 394, 360, 356, 354, 308, 282, 344, 332, 326, 300, 278, 436, 434, 428, 422, 406, 410, 364, 358, 310, 314, 302, 468, 466, 458, 366, 374, 430, 294, 474, 470, 306, 350] : List Int)) := ⟨_, rfl⟩
  replace H : (if 0 ≤ a0 then (if a0 < (y141.length : Int) then (some (rd y141 a0)) else (none)) else (none)) = some r := by first | (rw [hy141]; with_reducible exact H) | (have H2_ := (Option.bind_some _ _).symm.trans H; rw [hy141]; with_reducible exact H2_) | (have H2_ := (Option.bind_some _ _).symm.trans H; with_reducible exact H2_) | with_reducible exact H | (rw [hy141]; exact H) | exact H
  have Ny141 := Aside0.mk hy141
  clear hy141
  by_cases c2 : 0 ≤ a0
  · rw [if_pos c2] at H
    have c2b0 : decide (0 ≤ a0) = true := decide_eq_true c2
    clear c2
    by_cases c3 : a0 < (y141.length : Int)
    · rw [if_pos c3] at H
      have c3b0 : decide (a0 < (y141.length : Int)) = true := decide_eq_true c3
      clear c3
      obtain rfl := Option.some.inj H
      go_enter Tryz.func34, Tryz.ntmps34
      go_wp2_with (first | ((with_reducible refine gate_dst (N := 4) rfl ?_); refine Kd.R_lit (Kd.int .i64) _ 3 ?hg (N := 4) ?hd (xs := ([276, 328, 324, 322, 296, 292, 290, 336, 274, 266, 424, 420, 418, 404, 402, 394, 360, 356, 354, 308, 282, 344, 332, 326, 300, 278, 436, 434, 428, 422, 406, 410, 364, 358, 310, 314, 302, 468, 466, 458, 366, 374, 430, 294, 474, 470, 306, 350] : List Int)) (inner := [.int .i64 276, .int .i64 328, .int .i64 324, .int .i64 322, .int .i64 296, .int .i64 292, .int .i64 290, .int .i64 336, .int .i64 274, .int .i64 266, .int .i64 424, .int .i64 420, .int .i64 418, .int .i64 404, .int .i64 402, .int .i64 394, .int .i64 360, .int .i64 356, .int .i64 354, .int .i64 308, .int .i64 282, .int .i64 344, .int .i64 332, .int .i64 326, .int .i64 300, .int .i64 278, .int .i64 436, .int .i64 434, .int .i64 428, .int .i64 422, .int .i64 406, .int .i64 410, .int .i64 364, .int .i64 358, .int .i64 310, .int .i64 314, .int .i64 302, .int .i64 468, .int .i64 466, .int .i64 458, .int .i64 366, .int .i64 374, .int .i64 430, .int .i64 294, .int .i64 474, .int .i64 470, .int .i64 306, .int .i64 350]) (ok := fun _ => True) (okp := fun _ => True) ?hr ?hp (fun _ hk => hk) trivial (Below.refl _ _) (Nat.le_refl _) (by simp) ?_; (case hd => rfl); (case hg => rfl); (case hr => first | (go_simp; done) | (go_simp; rfl)); (case hp => exact (Reps.one (show Kd.M (Kd.int .i64) _ _ _ 276 [.int .i64 276] from rfl) (Reps.one (show Kd.M (Kd.int .i64) _ _ _ 328 [.int .i64 328] from rfl) (Reps.one (show Kd.M (Kd.int .i64) _ _ _ 324 [.int .i64 324] from rfl) (Reps.one (show Kd.M (Kd.int .i64) _ _ _ 322 [.int .i64 322] from rfl) (Reps.one (show Kd.M (Kd.int .i64) _ _ _ 296 [.int .i64 296] from rfl) (Reps.one (show Kd.M (Kd.int .i64) _ _ _ 292 [.int .i64 292] from rfl) (Reps.one (show Kd.M (Kd.int .i64) _ _ _ 290 [.int .i64 290] from rfl) (Reps.one (show Kd.M (Kd.int .i64) _ _ _ 336 [.int .i64 336] from rfl) (Reps.one (show Kd.M (Kd.int .i64) _ _ _ 274 [.int .i64 274] from rfl) (Reps.one (show Kd.M (Kd.int .i64) _ _ _ 266 [.int .i64 266] from rfl) (Reps.one (show Kd.M (Kd.int .i64) _ _ _ 424 [.int .i64 424] from rfl) (Reps.one (show Kd.M (Kd.int .i64) _ _ _ 420 [.int .i64 420] from rfl) (Reps.one (show Kd.M (Kd.int .i64) _ _ _ 418 [.int .i64 418] from rfl) (Reps.one (show Kd.M (Kd.int .i64) _ _ _ 404 [.int .i64 404] from rfl) (Reps.one (show Kd.M (Kd.int .i64) _ _ _ 402 [.int .i64 402] from rfl) (Reps.one (show Kd.M (Kd.int .i64) _ _ _ 394 [.int .i64 394] from rfl) (Reps.one (show Kd.M (Kd.int .i64) _ _ _ 360 [.int .i64 360] from rfl) (Reps.one (show Kd.M (Kd.int .i64) _ _ _ 356 [.int .i64 356] from rfl) (Reps.one (show Kd.M (Kd.int .i64) _ _ _ 354 [.int .i64 354] from rfl) (Reps.one (show Kd.M (Kd.int .i64) _ _ _ 308 [.int .i64 308] from rfl) (Reps.one (show Kd.M (Kd.int .i64) _ _ _ 282 [.int .i64 282] from rfl) (Reps.one (show Kd.M (Kd.int .i64) _ _ _ 344 [.int .i64 344] from rfl) (Reps.one (show Kd.M (Kd.int .i64) _ _ _ 332 [.int .i64 332] from rfl) (Reps.one (show Kd.M (Kd.int .i64) _ _ _ 326 [.int .i64 326] from rfl) (Reps.one (show Kd.M (Kd.int .i64) _ _ _ 300 [.int .i64 300] from rfl) (Reps.one (show Kd.M (Kd.int .i64) _ _ _ 278 [.int .i64 278] from rfl) (Reps.one (show Kd.M (Kd.int .i64) _ _ _ 436 [.int .i64 436] from rfl) (Reps.one (show Kd.M (Kd.int .i64) _ _ _ 434 [.int .i64 434] from rfl) (Reps.one (show Kd.M (Kd.int .i64) _ _ _ 428 [.int .i64 428] from rfl) (Reps.one (show Kd.M (Kd.int .i64) _ _ _ 422 [.int .i64 422] from rfl) (Reps.one (show Kd.M (Kd.int .i64) _ _ _ 406 [.int .i64 406] from rfl) (Reps.one (show Kd.M (Kd.int .i64) _ _ _ 410 [.int .i64 410] from rfl) (Reps.one (show Kd.M (Kd.int .i64) _ _ _ 364 [.int .i64 364] from rfl) (Reps.one (show Kd.M (Kd.int .i64) _ _ _ 358 [.int .i64 358] from rfl) (Reps.one (show Kd.M (Kd.int .i64) _ _ _ 310 [.int .i64 310] from rfl) (Reps.one (show Kd.M (Kd.int .i64) _ _ _ 314 [.int .i64 314] from rfl) (Reps.one (show Kd.M (Kd.int .i64) _ _ _ 302 [.int .i64 302] from rfl) (Reps.one (show Kd.M (Kd.int .i64) _ _ _ 468 [.int .i64 468] from rfl) (Reps.one (show Kd.M (Kd.int .i64) _ _ _ 466 [.int .i64 466] from rfl) (Reps.one (show Kd.M (Kd.int .i64) _ _ _ 458 [.int .i64 458] from rfl) (Reps.one (show Kd.M (Kd.int .i64) _ _ _ 366 [.int .i64 366] from rfl) (Reps.one (show Kd.M (Kd.int .i64) _ _ _ 374 [.int .i64 374] from rfl) (Reps.one (show Kd.M (Kd.int .i64) _ _ _ 430 [.int .i64 430] from rfl) (Reps.one (show Kd.M (Kd.int .i64) _ _ _ 294 [.int .i64 294] from rfl) (Reps.one (show Kd.M (Kd.int .i64) _ _ _ 474 [.int .i64 474] from rfl) (Reps.one (show Kd.M (Kd.int .i64) _ _ _ 470 [.int .i64 470] from rfl) (Reps.one (show Kd.M (Kd.int .i64) _ _ _ 306 [.int .i64 306] from rfl) (Reps.one (show Kd.M (Kd.int .i64) _ _ _ 350 [.int .i64 350] from rfl) (Reps.none _ _)))))))))))))))))))))))))))))))))))))))))))))))))); intro v142 w4 ho5 hb hg_ hnew_; clear hg_ hnew_; (first | rw [← Ny141.out] at ho5 | (simp only [Int.reduceToNat] at ho5; rw [← Ny141.out] at ho5)); have n0_ := Aside0.mk (Kd.R_lower ho5 (below_size (by repeat (first | (with_reducible first | exact HB.out | apply below_alloc | apply pw_below_drewN | apply below_drew1) | exact HB.out)))); have n1_ := Aside0.mk (below_step (by repeat (first | (with_reducible first | exact HB.out | apply below_alloc | apply pw_below_drewN | apply below_drew1) | exact HB.out)) hb); clear HB; have HO143 := n0_; have HB := n1_; clear n0_ n1_; clear hb ho5; obtain ⟨Ao6, co6, eo6⟩ := Kd.R_slice HO143.out; subst eo6; have p144 : 0 ≤ (a0 : Int) := of_decide_eq_true (by first | (with_reducible assumption) | assumption); have q144 : a0 < (y141.length : Int) := of_decide_eq_true (by first | (with_reducible assumption) | assumption); obtain ⟨ad144, e144, hx144_0⟩ := Kd.at_int (Kd.R_reads' HO143.out).2.2 a0 p144 q144; cases e144; replace p144 := eq_true p144; replace q144 := eq_true q144))
      go_ret
      exact ⟨by first | rfl | (simp [errW_none, errW_some] <;> rfl) | (simp [*, errW_none, errW_some] <;> rfl), by repeat (first | (with_reducible first | exact HB.out | apply below_alloc | apply pw_below_drewN | apply below_drew1) | exact HB.out)⟩
    · rw [if_neg c3] at H
      exact absurd H (by simp)
  · rw [if_neg c2] at H
    exact absurd H (by simp)
end Go.Proofs.YthkddnmomjcdaaaGreat.F
