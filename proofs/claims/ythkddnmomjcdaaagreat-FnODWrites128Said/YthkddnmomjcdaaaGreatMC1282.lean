import Derived.Test.YthkddnmomjcdaaaGreatMC1281
namespace Go.Proofs.YthkddnmomjcdaaaGreat.F
open Go.RowKit Go.Proofs.YthkddnmomjcdaaaGreatW.PrintWords Go.Proofs.YthkddnmomjcdaaaGreatW.PrintLast Go.Proofs.YthkddnmomjcdaaaGreatW.PrintMore
attribute [local go_sem] max2_int min2_int max_two min_two max_three min_three max_four min_four   -- for this text's walks alone
set_option linter.unusedVariables false
set_option linter.unusedSimpArgs false

/-! ### spec_ODBars: function 38 -/
mutual
def spec_ODBars.l0 : Nat → List Int → List Bool → Int → Option (List Bool)
  | 0, _, _, _ => none
  | k + 1, x0, x3, x4 => if x4 < (x0.length : Int) then (spec_ODBars.l1 k x0 x3 x4 0) else (some x3)
def spec_ODBars.l1 : Nat → List Int → List Bool → Int → Int → Option (List Bool)
  | 0, _, _, _, _ => none
  | k + 1, x0, x3, x4, x5 => if 0 ≤ x4 then (if x4 < (x0.length : Int) then (if x5 < (rd x0 x4) then (if x3.length < 140737488355328 then (spec_ODBars.l1 k x0 (x3 ++ [((Int.tmod x4 2) == 0)]) x4 (wrap64 (x5 + 1))) else (none)) else (spec_ODBars.l0 k x0 x3 (wrap64 (x4 + 1)))) else (none)) else (none)
end
def spec_ODBars.f (k : Nat) (l0 : List Int) : Option (List Bool) := spec_ODBars.l0 k l0 ([] : List Bool) 0
theorem spec_ODBars.mono_l : ∀ k, (∀ y0 y1 y2, LeO (spec_ODBars.l0 k y0 y1 y2) (spec_ODBars.l0 (k + 1) y0 y1 y2)) ∧ (∀ y0 y1 y2 y3, LeO (spec_ODBars.l1 k y0 y1 y2 y3) (spec_ODBars.l1 (k + 1) y0 y1 y2 y3))
  | 0 => ⟨fun _ _ _ r h => by simp [spec_ODBars.l0] at h, fun _ _ _ _ r h => by simp [spec_ODBars.l1] at h⟩
  | k + 1 => by
    obtain ⟨ih0, ih1⟩ := spec_ODBars.mono_l k
    refine ⟨?_, ?_⟩
    · intro y0 y1 y2
      unfold spec_ODBars.l0
      repeat' first
      | (with_reducible exact ih0 _ _ _)
      | (with_reducible exact ih1 _ _ _ _)
      | (with_reducible exact LeO.refl _)
      | (with_reducible exact LeO.none _)
      | (with_reducible refine LeO.ite ?_ ?_)
      | (with_reducible refine LeO.bind ?_ (fun _ => ?_))
      | exact ih0 _ _ _
      | exact ih1 _ _ _ _
      | exact LeO.none _
      | refine LeO.ite ?_ ?_
      | refine LeO.bind ?_ (fun _ => ?_)
    · intro y0 y1 y2 y3
      unfold spec_ODBars.l1
      repeat' first
      | (with_reducible exact ih0 _ _ _)
      | (with_reducible exact ih1 _ _ _ _)
      | (with_reducible exact LeO.refl _)
      | (with_reducible exact LeO.none _)
      | (with_reducible refine LeO.ite ?_ ?_)
      | (with_reducible refine LeO.bind ?_ (fun _ => ?_))
      | exact ih0 _ _ _
      | exact ih1 _ _ _ _
      | exact LeO.none _
      | refine LeO.ite ?_ ?_
      | refine LeO.bind ?_ (fun _ => ?_)
theorem spec_ODBars.mono : ∀ a0 k, LeO (spec_ODBars.f k a0) (spec_ODBars.f (k + 1) a0) := by
  intro a0 k
  obtain ⟨ih0, ih1⟩ := spec_ODBars.mono_l k
  unfold spec_ODBars.f
  repeat' first
      | (with_reducible exact ih0 _ _ _)
      | (with_reducible exact ih1 _ _ _ _)
      | (with_reducible exact LeO.refl _)
      | (with_reducible exact LeO.none _)
      | (with_reducible refine LeO.ite ?_ ?_)
      | (with_reducible refine LeO.bind ?_ (fun _ => ?_))
      | exact ih0 _ _ _
      | exact ih1 _ _ _ _
      | exact LeO.none _
      | refine LeO.ite ?_ ?_
      | refine LeO.bind ?_ (fun _ => ?_)
set_option maxHeartbeats 8000000 in
set_option maxRecDepth 100000 in
theorem spec_ODBars.calls (k : Nat) (A0 : Option Addr) (c0 : Nat) (l0 : List Int) (r : List Bool) (w : World) (hr0 : Kd.C (Kd.int .i64) w A0 l0.length l0) (hc0 : l0.length ≤ c0) (h : spec_ODBars.f k l0 = some r) :
    Calls Tryz.prog 38 #[.slice A0 l0.length c0] w fun e w' => ∃ v0_ : Value, e = .returned (v0_) ∧ Kd.R Kd.bool 4 w' w.heap.size (fun _ => True) v0_ r ∧ Below w.heap.size w w' := by
  have HR0 := Aside0.mk hr0
  have HC0 := Aside0.mk hc0
  clear hr0 hc0
  have HB := Aside0.mk (Below.refl w.heap.size w)
  have H : (spec_ODBars.l0 k l0 ([] : List Bool) 0) = some r := h
  clear h
  have H' := Aside0.mk H
  clear H
  go_enter Tryz.func38, Tryz.ntmps38
  go_wp2
  go_loopg [3, 4] k (fun kq v3 v4 w' => ∃ (x3_1 : List Bool) (x4_1 : Int), v4 = .int .i64 x4_1 ∧ Aside0 (spec_ODBars.l0 kq l0 x3_1 x4_1 = some r) ∧ Aside0 (kq ≤ k) ∧ Aside0 (Kd.R Kd.bool 4 w' w.heap.size (fun _ => True) v3 x3_1) ∧ Aside0 (Below w.heap.size w w'))
  case atStart => exact ⟨(([] : List Bool)), (0), (by first | rfl | (simp; done) | (simp [*]; done)), H', ⟨Nat.le_refl _⟩, ⟨by first | exact Kd.R_nil _ _ _ _ _ | exact Kd.N_nil _ _ _ _ _ | exact Kd.V_nil _ _ _ _ _ | exact Kd.Q_nil _ _ _ _ _ | exact Kd.S_nil _ _ _ _ _⟩, ⟨by repeat (first | (with_reducible first | exact HB.out | apply below_alloc | apply pw_below_drewN | apply below_drew1) | exact HB.out)⟩⟩
  case round =>
    clear H'
    obtain ⟨x3_1, x4_1, rfl, HA, HK1, HO_3, HB⟩ := hrel
    cases gk with
    | zero => exact absurd HA.out (by simp [spec_ODBars.l0])
    | succ k1 =>
      have H := HA.out
      clear HA
      simp only [spec_ODBars.l0] at H
      by_cases c2 : x4_1 < (l0.length : Int)
      · rw [if_pos c2] at H
        have c2b0 : decide (x4_1 < (l0.length : Int)) = true := decide_eq_true c2
        clear c2
        have H' := Aside0.mk H
        clear H
        go_wp2
        go_loopg [3, 5] k1 (fun kq v3 v5 w' => ∃ (x3_2 : List Bool) (x5_2 : Int), v5 = .int .i64 x5_2 ∧ Aside0 (spec_ODBars.l1 kq l0 x3_2 x4_1 x5_2 = some r) ∧ Aside0 (kq ≤ k1) ∧ Aside0 (Kd.R Kd.bool 4 w' w.heap.size (fun _ => True) v3 x3_2) ∧ Aside0 (Below w.heap.size w w'))
        case atStart => exact ⟨(x3_1), (0), (by first | rfl | (simp; done) | (simp [*]; done)), H', ⟨Nat.le_refl _⟩, ⟨by (with_reducible repeat (first | apply Kd.R_alloc | apply Kd.R_drewN | apply Kd.R_drew)); exact HO_3.out⟩, ⟨by repeat (first | (with_reducible first | exact HB.out | apply below_alloc | apply pw_below_drewN | apply below_drew1) | exact HB.out)⟩⟩
        case round =>
          clear H'
          try clear c2
          try clear c2b0
          try clear p2
          obtain ⟨x3_2, x5_2, rfl, HA, HK2, HO_3, HB⟩ := hrel
          cases gk with
          | zero => exact absurd HA.out (by simp [spec_ODBars.l1])
          | succ k2 =>
            have H := HA.out
            clear HA
            simp only [spec_ODBars.l1] at H
            by_cases c3 : 0 ≤ x4_1
            · rw [if_pos c3] at H
              have c3b0 : decide (0 ≤ x4_1) = true := decide_eq_true c3
              clear c3
              by_cases c4 : x4_1 < (l0.length : Int)
              · rw [if_pos c4] at H
                have c4b0 : decide (x4_1 < (l0.length : Int)) = true := decide_eq_true c4
                clear c4
                by_cases c5 : x5_2 < (rd l0 x4_1)
                · rw [if_pos c5] at H
                  have c5b0 : decide (x5_2 < (rd l0 x4_1)) = true := decide_eq_true c5
                  clear c5
                  by_cases c6 : x3_2.length < 140737488355328
                  · rw [if_pos c6] at H
                    have LMc6 := Aside0.mk c6
                    clear c6
                    obtain ⟨y204, hy204⟩ : ∃ y_ : List Bool, y_ = (x3_2 ++ [((Int.tmod x4_1 2) == 0)]) := ⟨_, rfl⟩
                    replace H : (spec_ODBars.l1 k2 l0 y204 x4_1 (wrap64 (x5_2 + 1))) = some r := by first | (rw [hy204]; with_reducible exact H) | (have H2_ := (Option.bind_some _ _).symm.trans H; rw [hy204]; with_reducible exact H2_) | (have H2_ := (Option.bind_some _ _).symm.trans H; with_reducible exact H2_) | with_reducible exact H | (rw [hy204]; exact H) | exact H
                    have Ny204 := Aside0.mk hy204
                    clear hy204
                    have H' := Aside0.mk H
                    clear H
                    have p203 : 0 ≤ (x4_1 : Int) := of_decide_eq_true (by first | (with_reducible assumption) | assumption)
                    have q203 : x4_1 < (l0.length : Int) := of_decide_eq_true (by first | (with_reducible assumption) | assumption)
                    obtain ⟨ad203, e203, hx203_0⟩ := Kd.at_int HR0.out x4_1 p203 q203
                    cases e203
                    replace hx203_0 := (HB.out.cell (World.block_lt_of_cell? w _ hx203_0)).trans hx203_0
                    replace p203 := eq_true p203
                    replace q203 := eq_true q203
                    go_wp2_with (first | ((with_reducible refine gate_builtin (b := .append) (xs := #[.tmp 20, .tmp 24]) rfl ?_); at_builtin; refine Kd.R_append Kd.bool (w0 := w) w.heap.size rfl (.tmp 20) (.tmp 24) 27 4 (.bool false) 1 rfl Tryz.underlying27 info4 rfl (by decide) (by omega) u3 x3_2 ((Int.tmod x4_1 2) == 0) [.bool ((Int.tmod x4_1 2) == 0)] (fun _ => True) (fun _ => False) rfl rfl ?aP (fun _ hk => hk.elim) ?aF ?aO ?aB ?aS ?aL ?_; (case aP => exact rfl); (case aB => exact (by repeat (first | (with_reducible first | exact HB.out | apply below_alloc | apply pw_below_drewN | apply below_drew1) | exact HB.out))); (case aF => exact (fun _ _ => trivial)); (case aO => exact (by (with_reducible repeat (first | apply Kd.R_alloc | apply Kd.R_drewN | apply Kd.R_drew)); exact HO_3.out)); (case aS => exact (below_size (by repeat (first | (with_reducible first | exact HB.out | apply below_alloc | apply pw_below_drewN | apply below_drew1) | exact HB.out)))); (case aL => have := LMc6.out; omega); intro v205 w7 ho hb hg hat; rw [← Ny204.out] at ho; have n0_ := Aside0.mk (hb); have n1_ := Aside0.mk (ho); clear HB; clear HO_3; have HB := n0_; have HO206 := n1_; clear n0_ n1_; clear ho hb hg hat))
                    go_roundg k2
                    case measure => have := HK1.out; have := HK2.out; omega
                    case rel => exact ⟨(y204), (wrap64 (x5_2 + 1)), (by first | rfl | (simp; done) | (simp [*]; done)), H', ⟨by have := HK1.out; have := HK2.out; omega⟩, ⟨by (with_reducible repeat (first | apply Kd.R_alloc | apply Kd.R_drewN | apply Kd.R_drew)); exact HO206.out⟩, ⟨by repeat (first | (with_reducible first | exact HB.out | apply below_alloc | apply pw_below_drewN | apply below_drew1) | exact HB.out)⟩⟩
                  · rw [if_neg c6] at H
                    exact absurd H (by simp)
                · rw [if_neg c5] at H
                  have c5b0 : decide (x5_2 < (rd l0 x4_1)) = false := decide_eq_false c5
                  clear c5
                  have H' := Aside0.mk H
                  clear H
                  have p203 : 0 ≤ (x4_1 : Int) := of_decide_eq_true (by first | (with_reducible assumption) | assumption)
                  have q203 : x4_1 < (l0.length : Int) := of_decide_eq_true (by first | (with_reducible assumption) | assumption)
                  obtain ⟨ad203, e203, hx203_0⟩ := Kd.at_int HR0.out x4_1 p203 q203
                  cases e203
                  replace hx203_0 := (HB.out.cell (World.block_lt_of_cell? w _ hx203_0)).trans hx203_0
                  replace p203 := eq_true p203
                  replace q203 := eq_true q203
                  go_wp2
                  go_roundg k2
                  case measure => have := HK1.out; have := HK2.out; omega
                  case rel => exact ⟨(x3_2), (wrap64 (x4_1 + 1)), (by first | rfl | (simp; done) | (simp [*]; done)), H', ⟨by have := HK1.out; have := HK2.out; omega⟩, ⟨by (with_reducible repeat (first | apply Kd.R_alloc | apply Kd.R_drewN | apply Kd.R_drew)); exact HO_3.out⟩, ⟨by repeat (first | (with_reducible first | exact HB.out | apply below_alloc | apply pw_below_drewN | apply below_drew1) | exact HB.out)⟩⟩
              · rw [if_neg c4] at H
                exact absurd H (by simp)
            · rw [if_neg c3] at H
              exact absurd H (by simp)
      · rw [if_neg c2] at H
        have c2b0 : decide (x4_1 < (l0.length : Int)) = false := decide_eq_false c2
        clear c2
        obtain rfl := Option.some.inj H
        go_wp2
        go_ret
        exact ⟨_, by first | rfl | (simp [errW_none, errW_some] <;> rfl) | (simp [*, errW_none, errW_some] <;> rfl), by (with_reducible repeat (first | apply Kd.R_alloc | apply Kd.R_drewN | apply Kd.R_drew)); exact HO_3.out, by repeat (first | (with_reducible first | exact HB.out | apply below_alloc | apply pw_below_drewN | apply below_drew1) | exact HB.out)⟩
/-! ### od128Widths: function 45, by hand (over Wt) -/
def spec_od128Widths.f (a : Int) : Option Int := if 0 ≤ a ∧ a < 107 then some (B.w128.getD a.toNat 0) else none
theorem spec_od128Widths.calls (a : Int) (r : Int) (w : World) (h : spec_od128Widths.f a = some r) : Calls Tryz.prog 45 #[.int .i64 a] w fun e w' => e = .returned (.int .i64 r) ∧ Below w.heap.size w w' := by
  unfold spec_od128Widths.f at h
  by_cases c : 0 ≤ a ∧ a < 107
  · rw [if_pos c] at h
    injection h with h
    obtain ⟨n, rfl⟩ : ∃ n : Nat, a = n := ⟨a.toNat, by omega⟩
    rw [← h]
    exact B.od128 w n (by omega)
  · rw [if_neg c] at h
    cases h

/-! ### spec_OD128Check: function 46 -/
def spec_OD128Check.l0 : Nat → List Int → Int → Int → Option (Int)
  | 0, _, _, _ => none
  | k + 1, x0, x3, x4 => if x4 < (x0.length : Int) then (if 0 ≤ x4 then (spec_OD128Check.l0 k x0 (wrap64 (x3 + (wrap64 (x4 * (rd x0 x4))))) (wrap64 (x4 + 1))) else (none)) else (some (Int.tmod x3 103))
def spec_OD128Check.f (k : Nat) (l0 : List Int) : Option (Int) := if 0 < (l0.length : Int) then (spec_OD128Check.l0 k l0 (rd l0 0) 1) else (none)
theorem spec_OD128Check.mono_l : ∀ k, (∀ y0 y1 y2, LeO (spec_OD128Check.l0 k y0 y1 y2) (spec_OD128Check.l0 (k + 1) y0 y1 y2))
  | 0 => fun _ _ _ r h => by simp [spec_OD128Check.l0] at h
  | k + 1 => by
    have ih0 := spec_OD128Check.mono_l k
    · intro y0 y1 y2
      unfold spec_OD128Check.l0
      repeat' first
      | (with_reducible exact ih0 _ _ _)
      | (with_reducible exact LeO.refl _)
      | (with_reducible exact LeO.none _)
      | (with_reducible refine LeO.ite ?_ ?_)
      | (with_reducible refine LeO.bind ?_ (fun _ => ?_))
      | exact ih0 _ _ _
      | exact LeO.none _
      | refine LeO.ite ?_ ?_
      | refine LeO.bind ?_ (fun _ => ?_)
theorem spec_OD128Check.mono : ∀ a0 k, LeO (spec_OD128Check.f k a0) (spec_OD128Check.f (k + 1) a0) := by
  intro a0 k
  have ih0 := spec_OD128Check.mono_l k
  unfold spec_OD128Check.f
  repeat' first
      | (with_reducible exact ih0 _ _ _)
      | (with_reducible exact LeO.refl _)
      | (with_reducible exact LeO.none _)
      | (with_reducible refine LeO.ite ?_ ?_)
      | (with_reducible refine LeO.bind ?_ (fun _ => ?_))
      | exact ih0 _ _ _
      | exact LeO.none _
      | refine LeO.ite ?_ ?_
      | refine LeO.bind ?_ (fun _ => ?_)
set_option maxHeartbeats 8000000 in
set_option maxRecDepth 100000 in
theorem spec_OD128Check.calls (k : Nat) (A0 : Option Addr) (c0 : Nat) (l0 : List Int) (r : Int) (w : World) (hr0 : Kd.C (Kd.int .i64) w A0 l0.length l0) (hc0 : l0.length ≤ c0) (h : spec_OD128Check.f k l0 = some r) :
    Calls Tryz.prog 46 #[.slice A0 l0.length c0] w fun e w' => e = .returned (.int .i64 r) ∧ Drawn0 w w' := by
  have HR0 := Aside0.mk hr0
  have HC0 := Aside0.mk hc0
  clear hr0 hc0
  have H : (if 0 < (l0.length : Int) then (spec_OD128Check.l0 k l0 (rd l0 0) 1) else (none)) = some r := h
  clear h
  by_cases c2 : 0 < (l0.length : Int)
  · rw [if_pos c2] at H
    have c2b0 : decide (0 < (l0.length : Int)) = true := decide_eq_true c2
    have c2b1 : decide (0 < l0.length) = true := decide_eq_true (by omega)
    clear c2
    have H' := Aside0.mk H
    clear H
    have p319 : 0 ≤ (0 : Int) := (by omega)
    have q319 : 0 < (l0.length : Int) := of_decide_eq_true (by first | (with_reducible assumption) | assumption)
    obtain ⟨ad319, e319, hx319_0⟩ := Kd.at_int HR0.out 0 p319 q319
    cases e319
    have qi319 : (0 < l0.length) = True := eq_true (by omega)
    (try rw [show ((0 : Int)).toNat = 0 from rfl] at hx319_0)
    (try rw [Addr.add_zero'] at hx319_0)
    replace p319 := eq_true p319
    replace q319 := eq_true q319
    go_enter Tryz.func46, Tryz.ntmps46
    go_wp2
    go_loopg [3, 4] k (fun kq v3 v4 w' => ∃ (x3_1 : Int) (x4_1 : Int), v3 = .int .i64 x3_1 ∧ v4 = .int .i64 x4_1 ∧ Aside0 (spec_OD128Check.l0 kq l0 x3_1 x4_1 = some r) ∧ Aside0 (kq ≤ k) ∧ Drawn0 w w')
    case atStart => exact ⟨(rd l0 0), (1), (by first | rfl | (simp; done) | (simp [*]; done)), (by first | rfl | (simp; done) | (simp [*]; done)), H', ⟨Nat.le_refl _⟩, by repeat (first | exact Drawn0.refl _ | apply Drawn0.step)⟩
    case round =>
      clear H'
      try clear c2
      try clear c2b0
      try clear c2b1
      try clear p2
      try clear hx319_0
      try clear p319
      try clear q319
      obtain ⟨x3_1, x4_1, rfl, rfl, HA, HK1, ⟨m1, rfl⟩⟩ := hrel
      cases gk with
      | zero => exact absurd HA.out (by simp [spec_OD128Check.l0])
      | succ k1 =>
        have H := HA.out
        clear HA
        simp only [spec_OD128Check.l0] at H
        by_cases c3 : x4_1 < (l0.length : Int)
        · rw [if_pos c3] at H
          have c3b0 : decide (x4_1 < (l0.length : Int)) = true := decide_eq_true c3
          clear c3
          by_cases c4 : 0 ≤ x4_1
          · rw [if_pos c4] at H
            have c4b0 : decide (0 ≤ x4_1) = true := decide_eq_true c4
            clear c4
            have H' := Aside0.mk H
            clear H
            have p320 : 0 ≤ (x4_1 : Int) := of_decide_eq_true (by first | (with_reducible assumption) | assumption)
            have q320 : x4_1 < (l0.length : Int) := of_decide_eq_true (by first | (with_reducible assumption) | assumption)
            obtain ⟨ad320, e320, hx320_0⟩ := Kd.at_int HR0.out x4_1 p320 q320
            obtain rfl : ad319 = ad320 := (by injection e320)
            replace p320 := eq_true p320
            replace q320 := eq_true q320
            go_wp2
            go_roundg k1
            case measure => have := HK1.out; omega
            case rel => exact ⟨(wrap64 (x3_1 + (wrap64 (x4_1 * (rd l0 x4_1))))), (wrap64 (x4_1 + 1)), (by first | rfl | (simp; done) | (simp [*]; done)), (by first | rfl | (simp; done) | (simp [*]; done)), H', ⟨by have := HK1.out; omega⟩, by repeat (first | exact Drawn0.refl _ | apply Drawn0.step)⟩
          · rw [if_neg c4] at H
            exact absurd H (by simp)
        · rw [if_neg c3] at H
          have c3b0 : decide (x4_1 < (l0.length : Int)) = false := decide_eq_false c3
          clear c3
          obtain rfl := Option.some.inj H
          go_wp2
          go_ret
          exact ⟨by first | rfl | (simp; done) | (simp [*]; done), by repeat (first | exact Drawn0.refl _ | apply Drawn0.step)⟩
  · rw [if_neg c2] at H
    exact absurd H (by simp)

/-! ### spec_OD128Values: function 26 -/
mutual
def spec_OD128Values.l0 : Nat → List Bool → List Int → Int → Option (List Int × Bool)
  | 0, _, _, _ => none
  | k + 1, x0, x4, x5 => spec_OD128Values.l1 k x0 x4 x5 (-1) 0
def spec_OD128Values.j3 : Nat → List Bool → List Int → Int → Int → Option (List Int × Bool)
  | 0, _, _, _, _ => none
  | k + 1, x0, x4, x5, x6 => if x6 < 0 then (spec_OD128Values.j4 k x0 x4 x5 x6 true) else (spec_OD128Values.j4 k x0 x4 x5 x6 (decide ((x4.length : Int) > 200)))
def spec_OD128Values.j4 : Nat → List Bool → List Int → Int → Int → Bool → Option (List Int × Bool)
  | 0, _, _, _, _, _ => none
  | k + 1, x0, x4, x5, x6, x70 => if x70 = true then (some (([] : List Int), false)) else (if x6 = 106 then (if (x4.length : Int) < 3 then (some (([] : List Int), false)) else (if 0 < (x4.length : Int) then (if (rd x4 0) < 103 then (some (([] : List Int), false)) else (if (rd x4 0) > 105 then (some (([] : List Int), false)) else (if 0 ≤ (wrap64 ((x4.length : Int) - 1)) then (if (wrap64 ((x4.length : Int) - 1)) ≤ (x4.length : Int) then ((spec_OD128Check.f k (x4.take ((wrap64 ((x4.length : Int) - 1)) : Int).toNat)).bind fun t339 => (if (wrap64 ((x4.length : Int) - 1)) < (x4.length : Int) then (if t339 = (rd x4 (wrap64 ((x4.length : Int) - 1))) then (some ((x4.take ((wrap64 ((x4.length : Int) - 1)) : Int).toNat), true)) else (some (([] : List Int), false))) else (none))) else (none)) else (none)))) else (none))) else (if x4.length < 17592186044416 then (spec_OD128Values.l0 k x0 (x4 ++ [x6]) x5) else (none)))
def spec_OD128Values.l1 : Nat → List Bool → List Int → Int → Int → Int → Option (List Int × Bool)
  | 0, _, _, _, _, _ => none
  | k + 1, x0, x4, x5, x6, x7 => if x7 ≤ 106 then ((spec_od128Widths.f x7).bind fun t321 => (spec_OD128Values.l2 k x0 x4 x5 x6 x7 t321 ([] : List Int))) else (spec_OD128Values.j3 k x0 x4 x5 x6)
def spec_OD128Values.l2 : Nat → List Bool → List Int → Int → Int → Int → Int → List Int → Option (List Int × Bool)
  | 0, _, _, _, _, _, _, _ => none
  | k + 1, x0, x4, x5, x6, x7, x8, x9 => if x8 > 0 then ((some (([Int.tmod x8 10] : List Int) : List Int)).bind fun y322 => (if y322.length + x9.length < 17592186044416 then (spec_OD128Values.l2 k x0 x4 x5 x6 x7 (wrap64 (Int.tdiv x8 10)) (y322 ++ x9)) else (none))) else ((spec_ODBars.f k x9).bind fun t328 => (if (wrap64 (x5 + (t328.length : Int))) ≤ (x0.length : Int) then (if 0 ≤ x5 then (if x5 ≤ (wrap64 (x5 + (t328.length : Int))) then ((spec_BISameBits.f k ((x0.take ((wrap64 (x5 + (t328.length : Int))) : Int).toNat).drop (x5 : Int).toNat) t328).bind fun t332 => (if t332 = true then (if x7 < 106 then (spec_OD128Values.j3 k x0 x4 (wrap64 (x5 + (t328.length : Int))) x7) else (if (wrap64 (x5 + (t328.length : Int))) = (x0.length : Int) then (spec_OD128Values.j3 k x0 x4 (wrap64 (x5 + (t328.length : Int))) x7) else (spec_OD128Values.l1 k x0 x4 x5 x6 (wrap64 (x7 + 1))))) else (spec_OD128Values.l1 k x0 x4 x5 x6 (wrap64 (x7 + 1))))) else (none)) else (none)) else (spec_OD128Values.l1 k x0 x4 x5 x6 (wrap64 (x7 + 1)))))
end
def spec_OD128Values.f (k : Nat) (l0 : List Bool) : Option (List Int × Bool) := spec_OD128Values.l0 k l0 ([] : List Int) 0
theorem spec_OD128Values.mono_l : ∀ k, (∀ y0 y1 y2, LeO (spec_OD128Values.l0 k y0 y1 y2) (spec_OD128Values.l0 (k + 1) y0 y1 y2)) ∧ (∀ y0 y1 y2 y3, LeO (spec_OD128Values.j3 k y0 y1 y2 y3) (spec_OD128Values.j3 (k + 1) y0 y1 y2 y3)) ∧ (∀ y0 y1 y2 y3 y4, LeO (spec_OD128Values.j4 k y0 y1 y2 y3 y4) (spec_OD128Values.j4 (k + 1) y0 y1 y2 y3 y4)) ∧ (∀ y0 y1 y2 y3 y4, LeO (spec_OD128Values.l1 k y0 y1 y2 y3 y4) (spec_OD128Values.l1 (k + 1) y0 y1 y2 y3 y4)) ∧ (∀ y0 y1 y2 y3 y4 y5 y6, LeO (spec_OD128Values.l2 k y0 y1 y2 y3 y4 y5 y6) (spec_OD128Values.l2 (k + 1) y0 y1 y2 y3 y4 y5 y6))
  | 0 => ⟨fun _ _ _ r h => by simp [spec_OD128Values.l0] at h, fun _ _ _ _ r h => by simp [spec_OD128Values.j3] at h, fun _ _ _ _ _ r h => by simp [spec_OD128Values.j4] at h, fun _ _ _ _ _ r h => by simp [spec_OD128Values.l1] at h, fun _ _ _ _ _ _ _ r h => by simp [spec_OD128Values.l2] at h⟩
  | k + 1 => by
    obtain ⟨ih0, ih1, ih2, ih3, ih4⟩ := spec_OD128Values.mono_l k
    refine ⟨?_, ?_, ?_, ?_, ?_⟩
    · intro y0 y1 y2
      unfold spec_OD128Values.l0
      repeat' first
      | (with_reducible exact ih0 _ _ _)
      | (with_reducible exact ih1 _ _ _ _)
      | (with_reducible exact ih2 _ _ _ _ _)
      | (with_reducible exact ih3 _ _ _ _ _)
      | (with_reducible exact ih4 _ _ _ _ _ _ _)
      | (with_reducible exact spec_BISameBits.mono _ _ _)
      | (with_reducible exact spec_OD128Check.mono _ _)
      | (with_reducible exact spec_ODBars.mono _ _)
      | (with_reducible exact LeO.refl _)
      | (with_reducible exact LeO.none _)
      | (with_reducible refine LeO.ite ?_ ?_)
      | (with_reducible refine LeO.bind ?_ (fun _ => ?_))
      | exact ih0 _ _ _
      | exact ih1 _ _ _ _
      | exact ih2 _ _ _ _ _
      | exact ih3 _ _ _ _ _
      | exact ih4 _ _ _ _ _ _ _
      | exact spec_BISameBits.mono _ _ _
      | exact spec_OD128Check.mono _ _
      | exact spec_ODBars.mono _ _
      | exact LeO.none _
      | refine LeO.ite ?_ ?_
      | refine LeO.bind ?_ (fun _ => ?_)
    · intro y0 y1 y2 y3
      unfold spec_OD128Values.j3
      repeat' first
      | (with_reducible exact ih0 _ _ _)
      | (with_reducible exact ih1 _ _ _ _)
      | (with_reducible exact ih2 _ _ _ _ _)
      | (with_reducible exact ih3 _ _ _ _ _)
      | (with_reducible exact ih4 _ _ _ _ _ _ _)
      | (with_reducible exact spec_BISameBits.mono _ _ _)
      | (with_reducible exact spec_OD128Check.mono _ _)
      | (with_reducible exact spec_ODBars.mono _ _)
      | (with_reducible exact LeO.refl _)
      | (with_reducible exact LeO.none _)
      | (with_reducible refine LeO.ite ?_ ?_)
      | (with_reducible refine LeO.bind ?_ (fun _ => ?_))
      | exact ih0 _ _ _
      | exact ih1 _ _ _ _
      | exact ih2 _ _ _ _ _
      | exact ih3 _ _ _ _ _
      | exact ih4 _ _ _ _ _ _ _
      | exact spec_BISameBits.mono _ _ _
      | exact spec_OD128Check.mono _ _
      | exact spec_ODBars.mono _ _
      | exact LeO.none _
      | refine LeO.ite ?_ ?_
      | refine LeO.bind ?_ (fun _ => ?_)
    · intro y0 y1 y2 y3 y4
      unfold spec_OD128Values.j4
      repeat' first
      | (with_reducible exact ih0 _ _ _)
      | (with_reducible exact ih1 _ _ _ _)
      | (with_reducible exact ih2 _ _ _ _ _)
      | (with_reducible exact ih3 _ _ _ _ _)
      | (with_reducible exact ih4 _ _ _ _ _ _ _)
      | (with_reducible exact spec_BISameBits.mono _ _ _)
      | (with_reducible exact spec_OD128Check.mono _ _)
      | (with_reducible exact spec_ODBars.mono _ _)
      | (with_reducible exact LeO.refl _)
      | (with_reducible exact LeO.none _)
      | (with_reducible refine LeO.ite ?_ ?_)
      | (with_reducible refine LeO.bind ?_ (fun _ => ?_))
      | exact ih0 _ _ _
      | exact ih1 _ _ _ _
      | exact ih2 _ _ _ _ _
      | exact ih3 _ _ _ _ _
      | exact ih4 _ _ _ _ _ _ _
      | exact spec_BISameBits.mono _ _ _
      | exact spec_OD128Check.mono _ _
      | exact spec_ODBars.mono _ _
      | exact LeO.none _
      | refine LeO.ite ?_ ?_
      | refine LeO.bind ?_ (fun _ => ?_)
    · intro y0 y1 y2 y3 y4
      unfold spec_OD128Values.l1
      repeat' first
      | (with_reducible exact ih0 _ _ _)
      | (with_reducible exact ih1 _ _ _ _)
      | (with_reducible exact ih2 _ _ _ _ _)
      | (with_reducible exact ih3 _ _ _ _ _)
      | (with_reducible exact ih4 _ _ _ _ _ _ _)
      | (with_reducible exact spec_BISameBits.mono _ _ _)
      | (with_reducible exact spec_OD128Check.mono _ _)
      | (with_reducible exact spec_ODBars.mono _ _)
      | (with_reducible exact LeO.refl _)
      | (with_reducible exact LeO.none _)
      | (with_reducible refine LeO.ite ?_ ?_)
      | (with_reducible refine LeO.bind ?_ (fun _ => ?_))
      | exact ih0 _ _ _
      | exact ih1 _ _ _ _
      | exact ih2 _ _ _ _ _
      | exact ih3 _ _ _ _ _
      | exact ih4 _ _ _ _ _ _ _
      | exact spec_BISameBits.mono _ _ _
      | exact spec_OD128Check.mono _ _
      | exact spec_ODBars.mono _ _
      | exact LeO.none _
      | refine LeO.ite ?_ ?_
      | refine LeO.bind ?_ (fun _ => ?_)
    · intro y0 y1 y2 y3 y4 y5 y6
      unfold spec_OD128Values.l2
      repeat' first
      | (with_reducible exact ih0 _ _ _)
      | (with_reducible exact ih1 _ _ _ _)
      | (with_reducible exact ih2 _ _ _ _ _)
      | (with_reducible exact ih3 _ _ _ _ _)
      | (with_reducible exact ih4 _ _ _ _ _ _ _)
      | (with_reducible exact spec_BISameBits.mono _ _ _)
      | (with_reducible exact spec_OD128Check.mono _ _)
      | (with_reducible exact spec_ODBars.mono _ _)
      | (with_reducible exact LeO.refl _)
      | (with_reducible exact LeO.none _)
      | (with_reducible refine LeO.ite ?_ ?_)
      | (with_reducible refine LeO.bind ?_ (fun _ => ?_))
      | exact ih0 _ _ _
      | exact ih1 _ _ _ _
      | exact ih2 _ _ _ _ _
      | exact ih3 _ _ _ _ _
      | exact ih4 _ _ _ _ _ _ _
      | exact spec_BISameBits.mono _ _ _
      | exact spec_OD128Check.mono _ _
      | exact spec_ODBars.mono _ _
      | exact LeO.none _
      | refine LeO.ite ?_ ?_
      | refine LeO.bind ?_ (fun _ => ?_)
theorem spec_OD128Values.mono : ∀ a0 k, LeO (spec_OD128Values.f k a0) (spec_OD128Values.f (k + 1) a0) := by
  intro a0 k
  obtain ⟨ih0, ih1, ih2, ih3, ih4⟩ := spec_OD128Values.mono_l k
  unfold spec_OD128Values.f
  repeat' first
      | (with_reducible exact ih0 _ _ _)
      | (with_reducible exact ih1 _ _ _ _)
      | (with_reducible exact ih2 _ _ _ _ _)
      | (with_reducible exact ih3 _ _ _ _ _)
      | (with_reducible exact ih4 _ _ _ _ _ _ _)
      | (with_reducible exact spec_BISameBits.mono _ _ _)
      | (with_reducible exact spec_OD128Check.mono _ _)
      | (with_reducible exact spec_ODBars.mono _ _)
      | (with_reducible exact LeO.refl _)
      | (with_reducible exact LeO.none _)
      | (with_reducible refine LeO.ite ?_ ?_)
      | (with_reducible refine LeO.bind ?_ (fun _ => ?_))
      | exact ih0 _ _ _
      | exact ih1 _ _ _ _
      | exact ih2 _ _ _ _ _
      | exact ih3 _ _ _ _ _
      | exact ih4 _ _ _ _ _ _ _
      | exact spec_BISameBits.mono _ _ _
      | exact spec_OD128Check.mono _ _
      | exact spec_ODBars.mono _ _
      | exact LeO.none _
      | refine LeO.ite ?_ ?_
      | refine LeO.bind ?_ (fun _ => ?_)
def spec_OD128Values.T20 : Bool × List (List Nat × List Nat) := (true, [([], []), ([0], [0]), ([1], [1]), ([2], [2]), ([3], [3]), ([4, 3], [3, 4]), ([5, 3], [3, 5]), ([6, 3], [3, 6]), ([3, 7], [3, 7]), ([8, 3], [8]), ([9], [9]), ([10, 9], [9, 10]), ([11, 9], [9, 11]), ([12, 9], [9, 12]), ([9, 13], [9, 13]), ([14, 9], [14]), ([15], [15]), ([15], [15]), ([17, 15], [15, 17]), ([18, 15], [15, 18]), ([16, 19, 15], [15, 16, 19]), ([20, 15, 15], [15, 20]), ([15], [15]), ([15], [15]), ([23, 15], [15, 23]), ([24, 15], [15, 24]), ([22, 25, 15], [15, 22, 25]), ([26, 15], [15, 26]), ([21, 27, 15], [15, 21, 27]), ([15, 28], [15, 28])])
def spec_OD128Values.B20 : List Nat := [0, 1, 3, 7, 15, 31, 63, 127, 255, 511, 1023, 2047, 4095, 8191, 16383, 32767, 65535, 65535, 196607, 458751, 1048575, 2097151, 65535, 65535, 8454143, 25231359, 62980095, 130088959, 268435455, 536870911]
theorem spec_OD128Values.tab20 : rtab .any (opsOf Tryz.f26 20) = spec_OD128Values.T20 := by kernel_rfl
theorem spec_OD128Values.bits20 : waitsOk spec_OD128Values.T20.2 spec_OD128Values.B20 = true := by kernel_rfl
set_option maxHeartbeats 8000000 in
set_option maxRecDepth 100000 in
theorem spec_OD128Values.calls (k : Nat) (A0 : Option Addr) (c0 : Nat) (l0 : List Bool) (r1 : List Int) (r2 : Bool) (w : World) (hr0 : Kd.C Kd.bool w A0 l0.length l0) (hc0 : l0.length ≤ c0) (h : spec_OD128Values.f k l0 = some (r1, r2)) :
    Calls Tryz.prog 26 #[.slice A0 l0.length c0] w fun e w' => ∃ v0_ : Value, e = .returned (.tuple #[v0_, .bool r2]) ∧ Kd.R (Kd.int .i64) 3 w' w.heap.size (fun _ => True) v0_ r1 ∧ Below w.heap.size w w' := by
  have HR0 := Aside0.mk hr0
  have HC0 := Aside0.mk hc0
  clear hr0 hc0
  have HB := Aside0.mk (Below.refl w.heap.size w)
  have H : (spec_OD128Values.l0 k l0 ([] : List Int) 0) = some (r1, r2) := h
  clear h
  have H' := Aside0.mk H
  clear H
  go_enter Tryz.func26, Tryz.ntmps26
  go_wp2
  go_loopg [4, 5] k (fun kq v4 v5 w' => ∃ (x4_1 : List Int) (x5_1 : Int), v5 = .int .i64 x5_1 ∧ Aside0 (spec_OD128Values.l0 kq l0 x4_1 x5_1 = some (r1, r2)) ∧ Aside0 (kq ≤ k) ∧ Aside0 (Kd.R (Kd.int .i64) 3 w' w.heap.size (fun _ => True) v4 x4_1) ∧ Aside0 (Below w.heap.size w w'))
  case atStart => exact ⟨(([] : List Int)), (0), (by first | rfl | (simp; done) | (simp [*]; done)), H', ⟨Nat.le_refl _⟩, ⟨by first | exact Kd.R_nil _ _ _ _ _ | exact Kd.N_nil _ _ _ _ _ | exact Kd.V_nil _ _ _ _ _ | exact Kd.Q_nil _ _ _ _ _ | exact Kd.S_nil _ _ _ _ _⟩, ⟨by repeat (first | (with_reducible first | exact HB.out | apply below_alloc | apply pw_below_drewN | apply below_drew1) | exact HB.out)⟩⟩
  case round =>
    clear H'
    obtain ⟨x4_1, x5_1, rfl, HA, HK1, HO_4, HB⟩ := hrel
    cases gk with
    | zero => exact absurd HA.out (by simp [spec_OD128Values.l0])
    | succ k1 =>
      have H := HA.out
      clear HA
      simp only [spec_OD128Values.l0] at H
      have HC2 := Aside0.mk H
      clear H
      go_upto_block 2 with (fail)
      go_cut [5, 6] (fun v5 v6 wc => ∃ (kq : Nat) (x5_1 : Int) (x6_1 : Int), v5 = .int .i64 x5_1 ∧ v6 = .int .i64 x6_1 ∧ Aside0 (spec_OD128Values.j3 kq l0 x4_1 x5_1 x6_1 = some (r1, r2)) ∧ Aside0 (kq ≤ k1) ∧ Aside0 (Kd.R (Kd.int .i64) 3 wc w.heap.size (fun _ => True) u4 x4_1) ∧ Aside0 (Below w.heap.size w wc))
      case first =>
        have H := HC2.out
        clear HC2
        have H' := Aside0.mk H
        clear H
        go_wp2
        go_loopg [5, 6, 7] k1 (fun kq v5 v6 v7 w' => ∃ (x5_2 : Int) (x6_2 : Int) (x7_2 : Int), v5 = .int .i64 x5_2 ∧ v6 = .int .i64 x6_2 ∧ v7 = .int .i64 x7_2 ∧ Aside0 (spec_OD128Values.l1 kq l0 x4_1 x5_2 x6_2 x7_2 = some (r1, r2)) ∧ Aside0 (kq ≤ k1) ∧ Aside0 (Kd.R (Kd.int .i64) 3 w' w.heap.size (fun _ => True) u4 x4_1) ∧ Aside0 (Below w.heap.size w w'))
        case atStart => exact ⟨(x5_1), ((-1)), (0), (by first | rfl | (simp; done) | (simp [*]; done)), (by first | rfl | (simp; done) | (simp [*]; done)), (by first | rfl | (simp; done) | (simp [*]; done)), H', ⟨Nat.le_refl _⟩, ⟨by (with_reducible repeat (first | apply Kd.R_alloc | apply Kd.R_drewN | apply Kd.R_drew)); exact HO_4.out⟩, ⟨by repeat (first | (with_reducible first | exact HB.out | apply below_alloc | apply pw_below_drewN | apply below_drew1) | exact HB.out)⟩⟩
        case round =>
          clear H'
          try clear c2
          try clear p2
          obtain ⟨x5_2, x6_2, x7_2, rfl, rfl, rfl, HA, HK2, HO_4, HB⟩ := hrel
          cases gk with
          | zero => exact absurd HA.out (by simp [spec_OD128Values.l1])
          | succ k2 =>
            have H := HA.out
            clear HA
            simp only [spec_OD128Values.l1] at H
            by_cases c3 : x7_2 ≤ 106
            · rw [if_pos c3] at H
              have c3b0 : decide (x7_2 ≤ 106) = true := decide_eq_true c3
              clear c3
              (first | rw [c3b0] | (simp only [i64_w, i32_w]; rw [c3b0]) | skip)
              replace H := Option.bind_eq_some_iff.mp H
              obtain ⟨t321, A40, H⟩ := H
              replace H : (spec_OD128Values.l2 k2 l0 x4_1 x5_2 x6_2 x7_2 t321 ([] : List Int)) = some (r1, r2) := H
              have A4 := Aside0.mk A40
              clear A40
              have H' := Aside0.mk H
              clear H
              go_wp2_with (first | ((with_reducible refine gate_callee (f := 45) rfl ?_); refine goesL_ (some 16) rfl rfl Tryz.func45 (by kernel_rfl) rfl #[.int .i64 x7_2] rfl (by (try simp only [List.map_toArray, List.map_cons, List.map_nil]); first | done | rfl | (simp only [List.length_drop, List.length_take]; rfl)) ?_; (with_reducible refine (spec_od128Widths.calls x7_2 t321 _ A4.out).mono ?_); rintro e w5 ⟨rfl, hb⟩; refine ⟨_, rfl, ?_⟩; have n0_ := Aside0.mk (Kd.R_below (by (with_reducible repeat (first | apply Kd.R_alloc | apply Kd.R_drewN | apply Kd.R_drew)); exact HO_4.out) hb); have n1_ := Aside0.mk (below_step (by repeat (first | (with_reducible first | exact HB.out | apply below_alloc | apply pw_below_drewN | apply below_drew1) | exact HB.out)) hb); clear HO_4; clear HB; have HO_4 := n0_; have HB := n1_; clear n0_ n1_; (try clear hb); (try clear hb2); (try clear hk); (try clear hi)))
              go_loopg [8, 9] k2 (fun kq v8 v9 w' => ∃ (x8_3 : Int) (x9_3 : List Int), v8 = .int .i64 x8_3 ∧ Aside0 (spec_OD128Values.l2 kq l0 x4_1 x5_2 x6_2 x7_2 x8_3 x9_3 = some (r1, r2)) ∧ Aside0 (kq ≤ k2) ∧ Aside0 (Kd.R (Kd.int .i64) 3 w' w.heap.size (fun k_ => some k_ ≠ (v9 : Value).ownBlock) u4 x4_1) ∧ Aside0 (Kd.R (Kd.int .i64) 3 w' w.heap.size (fun k_ => some k_ ≠ (u4 : Value).ownBlock) v9 x9_3) ∧ Aside0 (Below w.heap.size w w'))
              case atStart => exact ⟨(t321), (([] : List Int)), (by first | rfl | (simp; done) | (simp [*]; done)), H', ⟨Nat.le_refl _⟩, ⟨by (with_reducible repeat (first | apply Kd.R_alloc | apply Kd.R_drewN | apply Kd.R_drew)); exact Kd.R_mono HO_4.out (fun _ hk => (by simp [Value.ownBlock]))⟩, ⟨by first | exact Kd.R_nil _ _ _ _ _ | exact Kd.N_nil _ _ _ _ _ | exact Kd.V_nil _ _ _ _ _ | exact Kd.Q_nil _ _ _ _ _ | exact Kd.S_nil _ _ _ _ _⟩, ⟨by repeat (first | (with_reducible first | exact HB.out | apply below_alloc | apply pw_below_drewN | apply below_drew1) | exact HB.out)⟩⟩
              case round =>
                clear H'
                try clear c2
                try clear p2
                try clear c3
                try clear c3b0
                try clear c4
                try clear p2
                obtain ⟨x8_3, x9_3, rfl, HA, HK3, HO_4, HO_9, HB⟩ := hrel
                cases gk with
                | zero => exact absurd HA.out (by simp [spec_OD128Values.l2])
                | succ k3 =>
                  have H := HA.out
                  clear HA
                  simp only [spec_OD128Values.l2] at H
                  by_cases c6 : x8_3 > 0
                  · rw [if_pos c6] at H
                    have c6b0 : decide (0 < x8_3) = true := decide_eq_true c6
                    clear c6
                    obtain ⟨y322, hy322⟩ : ∃ y_ : List Int, y_ = (([Int.tmod x8_3 10] : List Int)) := ⟨_, rfl⟩
                    replace H : (if y322.length + x9_3.length < 17592186044416 then (spec_OD128Values.l2 k3 l0 x4_1 x5_2 x6_2 x7_2 (wrap64 (Int.tdiv x8_3 10)) (y322 ++ x9_3)) else (none)) = some (r1, r2) := by first | (rw [hy322]; with_reducible exact H) | (have H2_ := (Option.bind_some _ _).symm.trans H; rw [hy322]; with_reducible exact H2_) | (have H2_ := (Option.bind_some _ _).symm.trans H; with_reducible exact H2_) | with_reducible exact H | (rw [hy322]; exact H) | exact H
                    have Ny322 := Aside0.mk hy322
                    clear hy322
                    by_cases c7 : y322.length + x9_3.length < 17592186044416
                    · rw [if_pos c7] at H
                      have LMc7 := Aside0.mk c7
                      clear c7
                      obtain ⟨y325, hy325⟩ : ∃ y_ : List Int, y_ = (y322 ++ x9_3) := ⟨_, rfl⟩
                      replace H : (spec_OD128Values.l2 k3 l0 x4_1 x5_2 x6_2 x7_2 (wrap64 (Int.tdiv x8_3 10)) y325) = some (r1, r2) := by first | (rw [hy325]; with_reducible exact H) | (have H2_ := (Option.bind_some _ _).symm.trans H; rw [hy325]; with_reducible exact H2_) | (have H2_ := (Option.bind_some _ _).symm.trans H; with_reducible exact H2_) | with_reducible exact H | (rw [hy325]; exact H) | exact H
                      have Ny325 := Aside0.mk hy325
                      clear hy325
                      have H' := Aside0.mk H
                      clear H
                      go_wp2_with (first | ((with_reducible refine gate_dst (N := 21) rfl ?_); (try (refine gate_guard (by rfl) ?_; dsimp only)); refine Kd.R_lit (Kd.int .i64) _ 3 ?hg (N := 21) ?hd (xs := ([Int.tmod x8_3 10] : List Int)) (inner := [.int .i64 (Int.tmod x8_3 10)]) (ok := fun _ => True) (okp := fun _ => True) ?hr ?hp (fun _ hk => hk) trivial (Below.refl _ _) (Nat.le_refl _) (by simp) ?_; (case hd => rfl); (case hg => rfl); (case hr => first | (go_simp; done) | (go_simp; rfl)); (case hp => exact (Reps.one (show Kd.M (Kd.int .i64) _ _ _ (Int.tmod x8_3 10) [.int .i64 (Int.tmod x8_3 10)] from rfl) (Reps.none _ _))); intro v323 w8 ho9 hb hg_ hnew_; clear hg_ hnew_; (first | rw [← Ny322.out] at ho9 | (simp only [Int.reduceToNat] at ho9; rw [← Ny322.out] at ho9)); have n0_ := Aside0.mk (Kd.R_elder' (by (with_reducible repeat (first | apply Kd.R_alloc | apply Kd.R_drewN | apply Kd.R_drew)); exact HO_4.out) (Kd.R_base ho9) hb); have n1_ := Aside0.mk (Kd.R_elder' (by (with_reducible repeat (first | apply Kd.R_alloc | apply Kd.R_drewN | apply Kd.R_drew)); exact HO_9.out) (Kd.R_base ho9) hb); have n2_ := Aside0.mk (Kd.R_lower (Kd.R_new' (Kd.R_new' ho9 (Kd.R_lt (by (with_reducible repeat (first | apply Kd.R_alloc | apply Kd.R_drewN | apply Kd.R_drew)); exact HO_4.out))) (Kd.R_lt (by (with_reducible repeat (first | apply Kd.R_alloc | apply Kd.R_drewN | apply Kd.R_drew)); exact HO_9.out))) (below_size (by repeat (first | (with_reducible first | exact HB.out | apply below_alloc | apply pw_below_drewN | apply below_drew1) | exact HB.out)))); have n3_ := Aside0.mk (below_step (by repeat (first | (with_reducible first | exact HB.out | apply below_alloc | apply pw_below_drewN | apply below_drew1) | exact HB.out)) hb); clear HO_4; clear HO_9; clear HB; have HO_4 := n0_; have HO_9 := n1_; have HO324 := n2_; have HB := n3_; clear n0_ n1_ n2_ n3_; clear hb ho9; obtain ⟨Ao11, co11, eo11⟩ := Kd.R_slice HO_9.out; subst eo11) | ((with_reducible refine gate_builtin (b := .append) (xs := #[.tmp 21, .tmp 22]) rfl ?_); (try (refine gate_guard (by rfl) ?_; dsimp only)); at_builtin; refine Kd.R_append_rows (Kd.int .i64) (w0 := w) w.heap.size rfl (.tmp 21) (.tmp 22) 40 3 (.int .i64 0) 8 rfl Tryz.underlying40 info3 rfl (by decide) (by omega) v323 y322 x9_3 _ _ _ (fun k_ => some k_ ≠ (u4 : Value).ownBlock ∧ some k_ ≠ (.slice Ao11 x9_3.length co11 : Value).ownBlock) (fun _ => False) rfl rfl ?aO ?aR (fun _ _ h => h) (fun _ h => h.elim) ?aF ?aB ?aS ?aL ?_; (case aR => repeat (first | exact (Kd.R_reads' HO_9.out).2.2 | (with_reducible refine Kd.C_alloc ?_ _) | (with_reducible refine Kd.C_drewN ?_ _) | (with_reducible refine Kd.C_drew ?_))); (case aB => exact (by repeat (first | (with_reducible first | exact HB.out | apply below_alloc | apply pw_below_drewN | apply below_drew1) | exact HB.out))); (case aF => exact (fun k_ hk => ⟨Kd.fresh' (Kd.R_lt (by (with_reducible repeat (first | apply Kd.R_alloc | apply Kd.R_drewN | apply Kd.R_drew)); exact HO_4.out)) k_ hk, Kd.fresh' (Kd.R_lt (by (with_reducible repeat (first | apply Kd.R_alloc | apply Kd.R_drewN | apply Kd.R_drew)); exact HO_9.out)) k_ hk⟩)); (case aO => exact (by (with_reducible repeat (first | apply Kd.R_alloc | apply Kd.R_drewN | apply Kd.R_drew)); exact Kd.R_mono HO324.out (fun _ hk => ⟨hk.1.2, hk.2⟩))); (case aS => exact (below_size (by repeat (first | (with_reducible first | exact HB.out | apply below_alloc | apply pw_below_drewN | apply below_drew1) | exact HB.out)))); (case aL => have := LMc7.out; omega); intro v326 w10 ho hb hg hat; rw [← Ny325.out] at ho; have n0_ := Aside0.mk (Kd.R_after (ok := (fun k_ => some k_ ≠ (.slice Ao11 x9_3.length co11 : Value).ownBlock)) (by (with_reducible repeat (first | apply Kd.R_alloc | apply Kd.R_drewN | apply Kd.R_drew)); exact HO_4.out) hg hat); have n1_ := Aside0.mk (Kd.R_after (ok := (fun k_ => some k_ ≠ (u4 : Value).ownBlock)) (by (with_reducible repeat (first | apply Kd.R_alloc | apply Kd.R_drewN | apply Kd.R_drew)); exact HO_9.out) hg hat); have n2_ := Aside0.mk (hb); have n3_ := Aside0.mk (ho); clear HO_4; clear HO_9; clear HB; clear HO324; have HO_4 := n0_; have HO_9 := n1_; have HB := n2_; have HO327 := n3_; clear n0_ n1_ n2_ n3_; clear ho hb hg hat))
                      go_roundg k3
                      case measure => have := HK1.out; have := HK2.out; have := HK3.out; omega
                      case rel => exact ⟨(wrap64 (Int.tdiv x8_3 10)), (y325), (by first | rfl | (simp; done) | (simp [*]; done)), H', ⟨by have := HK1.out; have := HK2.out; have := HK3.out; omega⟩, ⟨by (with_reducible repeat (first | apply Kd.R_alloc | apply Kd.R_drewN | apply Kd.R_drew)); exact Kd.R_mono HO_4.out (fun _ hk => hk.2)⟩, ⟨by (with_reducible repeat (first | apply Kd.R_alloc | apply Kd.R_drewN | apply Kd.R_drew)); exact Kd.R_mono HO327.out (fun _ hk => hk.1)⟩, ⟨by repeat (first | (with_reducible first | exact HB.out | apply below_alloc | apply pw_below_drewN | apply below_drew1) | exact HB.out)⟩⟩
                    · rw [if_neg c7] at H
                      exact absurd H (by simp)
                  · rw [if_neg c6] at H
                    have c6b0 : decide (0 < x8_3) = false := decide_eq_false c6
                    clear c6
                    replace H := Option.bind_eq_some_iff.mp H
                    obtain ⟨t328, A120, H⟩ := H
                    replace H : (if (wrap64 (x5_2 + (t328.length : Int))) ≤ (l0.length : Int) then (if 0 ≤ x5_2 then (if x5_2 ≤ (wrap64 (x5_2 + (t328.length : Int))) then ((spec_BISameBits.f k3 ((l0.take ((wrap64 (x5_2 + (t328.length : Int))) : Int).toNat).drop (x5_2 : Int).toNat) t328).bind fun t332 => (if t332 = true then (if x7_2 < 106 then (spec_OD128Values.j3 k3 l0 x4_1 (wrap64 (x5_2 + (t328.length : Int))) x7_2) else (if (wrap64 (x5_2 + (t328.length : Int))) = (l0.length : Int) then (spec_OD128Values.j3 k3 l0 x4_1 (wrap64 (x5_2 + (t328.length : Int))) x7_2) else (spec_OD128Values.l1 k3 l0 x4_1 x5_2 x6_2 (wrap64 (x7_2 + 1))))) else (spec_OD128Values.l1 k3 l0 x4_1 x5_2 x6_2 (wrap64 (x7_2 + 1))))) else (none)) else (none)) else (spec_OD128Values.l1 k3 l0 x4_1 x5_2 x6_2 (wrap64 (x7_2 + 1)))) = some (r1, r2) := H
                    have A12 := Aside0.mk A120
                    clear A120
                    by_cases c13 : (wrap64 (x5_2 + (t328.length : Int))) ≤ (l0.length : Int)
                    · rw [if_pos c13] at H
                      have c13b0 : decide ((wrap64 (x5_2 + (t328.length : Int))) ≤ (l0.length : Int)) = true := decide_eq_true c13
                      clear c13
                      by_cases c14 : 0 ≤ x5_2
                      · rw [if_pos c14] at H
                        have c14b0 := eq_true c14
                        have c14b1 : decide (0 ≤ x5_2) = true := decide_eq_true c14
                        clear c14
                        by_cases c15 : x5_2 ≤ (wrap64 (x5_2 + (t328.length : Int)))
                        · rw [if_pos c15] at H
                          have c15b0 := eq_true c15
                          have c15b1 : decide (x5_2 ≤ (wrap64 (x5_2 + (t328.length : Int)))) = true := decide_eq_true c15
                          have c16b0 := eq_true (of_decide_eq_true (by first | (with_reducible assumption) | assumption) : (wrap64 (x5_2 + (t328.length : Int))) ≤ (l0.length : Int))
                          replace H := Option.bind_eq_some_iff.mp H
                          obtain ⟨t332, A170, H⟩ := H
                          replace H : (if t332 = true then (if x7_2 < 106 then (spec_OD128Values.j3 k3 l0 x4_1 (wrap64 (x5_2 + (t328.length : Int))) x7_2) else (if (wrap64 (x5_2 + (t328.length : Int))) = (l0.length : Int) then (spec_OD128Values.j3 k3 l0 x4_1 (wrap64 (x5_2 + (t328.length : Int))) x7_2) else (spec_OD128Values.l1 k3 l0 x4_1 x5_2 x6_2 (wrap64 (x7_2 + 1))))) else (spec_OD128Values.l1 k3 l0 x4_1 x5_2 x6_2 (wrap64 (x7_2 + 1)))) = some (r1, r2) := H
                          have A17 := Aside0.mk A170
                          clear A170
                          by_cases c18 : t332 = true
                          · subst c18
                            have H1 : (if x7_2 < 106 then (spec_OD128Values.j3 k3 l0 x4_1 (wrap64 (x5_2 + (t328.length : Int))) x7_2) else (if (wrap64 (x5_2 + (t328.length : Int))) = (l0.length : Int) then (spec_OD128Values.j3 k3 l0 x4_1 (wrap64 (x5_2 + (t328.length : Int))) x7_2) else (spec_OD128Values.l1 k3 l0 x4_1 x5_2 x6_2 (wrap64 (x7_2 + 1))))) = some (r1, r2) := by rw [if_pos rfl] at H; exact H
                            clear H
                            have H := H1
                            clear H1
                            by_cases c19 : x7_2 < 106
                            · rw [if_pos c19] at H
                              have c19b0 : decide (x7_2 < 106) = true := decide_eq_true c19
                              clear c19
                              have H' := Aside0.mk H
                              clear H
                              obtain ⟨Ao20, co20, eo20⟩ := Kd.R_slice HO_9.out
                              subst eo20
                              go_wp2_with (first | ((with_reducible refine gate_callee (f := 38) rfl ?_); refine goesL_ (some 27) rfl rfl Tryz.func38 (by kernel_rfl) rfl #[.slice Ao20 x9_3.length co20] rfl (by (try simp only [List.map_toArray, List.map_cons, List.map_nil]); first | done | rfl | (simp only [List.length_drop, List.length_take]; rfl)) ?_; (with_reducible refine (spec_ODBars.calls k3 _ _ x9_3 t328 _ ?side1 ?side2 A12.out).mono ?_); (case side1 => repeat (first | exact (Kd.R_reads' HO_9.out).2.2 | (with_reducible refine Kd.C_alloc ?_ _) | (with_reducible refine Kd.C_drewN ?_ _) | (with_reducible refine Kd.C_drew ?_))); (case side2 => exact (Kd.R_reads' HO_9.out).2.1); rintro e w21 ⟨v329, rfl, ho0, hb⟩; refine ⟨_, rfl, ?_⟩; have n0_ := Aside0.mk (Kd.R_below (by (with_reducible repeat (first | apply Kd.R_alloc | apply Kd.R_drewN | apply Kd.R_drew)); exact HO_4.out) hb); have n1_ := Aside0.mk (Kd.R_below (by (with_reducible repeat (first | apply Kd.R_alloc | apply Kd.R_drewN | apply Kd.R_drew)); exact HO_9.out) hb); have n2_ := Aside0.mk (Kd.R_lower ho0 (below_size (by repeat (first | (with_reducible first | exact HB.out | apply below_alloc | apply pw_below_drewN | apply below_drew1) | exact HB.out)))); have n3_ := Aside0.mk (below_step (by repeat (first | (with_reducible first | exact HB.out | apply below_alloc | apply pw_below_drewN | apply below_drew1) | exact HB.out)) hb); clear HO_4; clear HO_9; clear HB; have HO_4 := n0_; have HO_9 := n1_; have HO330 := n2_; have HB := n3_; clear n0_ n1_ n2_ n3_; (try clear hb); (try clear hb2); (try clear hk); (try clear hi); (try clear ho0); obtain ⟨Ao22, co22, eo22⟩ := Kd.R_slice HO330.out; subst eo22; obtain ⟨i023, hi023, _, hsz23, _⟩ := info_parts info4; obtain ⟨A23, hcut23, hA23, hC23⟩ := print_mid_of (P := Tryz.prog) Value.bool false 27 4 .i64 .i64 Tryz.underlying27 hi023 hsz23 A0 c0 l0 x5_2 (wrap64 (x5_2 + (t328.length : Int))) (of_decide_eq_true (by first | (with_reducible assumption) | assumption)) (by first | omega | exact of_decide_eq_true (by first | (with_reducible assumption) | assumption)) (of_decide_eq_true (by first | (with_reducible assumption) | assumption)) HC0.out; have HR331 := Aside0.mk (Kd.C_of_reads (h1 := fun _ => rfl) (hA23 _ (Kd.reads_of_C HR0.out))); have HC331 := Aside0.mk hC23; clear hA23 hC23 hi023 hsz23) | (go_at_call 16; rw [← B.cut_len l0 x5_2 (wrap64 (x5_2 + (t328.length : Int))) (of_decide_eq_true (by first | (with_reducible assumption) | assumption))]; (with_reducible refine (spec_BISameBits.calls k3 _ _ ((l0.take ((wrap64 (x5_2 + (t328.length : Int))) : Int).toNat).drop (x5_2 : Int).toNat) _ _ t328 true _ ?side1 ?side2 ?side3 ?side4 A17.out).mono ?_); (case side1 => repeat (first | exact (Kd.C_below HR331.out HB.out) | (with_reducible refine Kd.C_alloc ?_ _) | (with_reducible refine Kd.C_drewN ?_ _) | (with_reducible refine Kd.C_drew ?_))); (case side2 => exact HC331.out); (case side3 => repeat (first | exact (Kd.R_reads' HO330.out).2.2 | (with_reducible refine Kd.C_alloc ?_ _) | (with_reducible refine Kd.C_drewN ?_ _) | (with_reducible refine Kd.C_drew ?_))); (case side4 => exact (Kd.R_reads' HO330.out).2.1); rintro e w' ⟨rfl, ⟨nd, rfl⟩⟩))
                              go_meet
                              case rel => exact ⟨_, (wrap64 (x5_2 + (t328.length : Int))), (x7_2), (by first | rfl | (simp; done) | (simp [*]; done)), (by first | rfl | (simp; done) | (simp [*]; done)), H', ⟨by have := HK1.out; have := HK2.out; have := HK3.out; first | omega | exact Nat.le_refl _⟩, ⟨by (with_reducible repeat (first | apply Kd.R_alloc | apply Kd.R_drewN | apply Kd.R_drew)); exact Kd.R_mono HO_4.out (fun _ hk => trivial)⟩, ⟨by repeat (first | (with_reducible first | exact HB.out | apply below_alloc | apply pw_below_drewN | apply below_drew1) | exact HB.out)⟩⟩
                            · rw [if_neg c19] at H
                              have c19b0 : decide (x7_2 < 106) = false := decide_eq_false c19
                              clear c19
                              by_cases c24 : (wrap64 (x5_2 + (t328.length : Int))) = (l0.length : Int)
                              · rw [if_pos c24] at H
                                have c24b0 : ((wrap64 (x5_2 + (t328.length : Int))) == (l0.length : Int)) = true := beq_iff_eq.mpr c24
                                have c24b1 : ((wrap64 (x5_2 + (t328.length : Int))) != (l0.length : Int)) = false := bne_eq_false_iff_eq.mpr c24
                                clear c24
                                have H' := Aside0.mk H
                                clear H
                                obtain ⟨Ao25, co25, eo25⟩ := Kd.R_slice HO_9.out
                                subst eo25
                                go_wp2_with (first | ((with_reducible refine gate_callee (f := 38) rfl ?_); refine goesL_ (some 27) rfl rfl Tryz.func38 (by kernel_rfl) rfl #[.slice Ao25 x9_3.length co25] rfl (by (try simp only [List.map_toArray, List.map_cons, List.map_nil]); first | done | rfl | (simp only [List.length_drop, List.length_take]; rfl)) ?_; (with_reducible refine (spec_ODBars.calls k3 _ _ x9_3 t328 _ ?side1 ?side2 A12.out).mono ?_); (case side1 => repeat (first | exact (Kd.R_reads' HO_9.out).2.2 | (with_reducible refine Kd.C_alloc ?_ _) | (with_reducible refine Kd.C_drewN ?_ _) | (with_reducible refine Kd.C_drew ?_))); (case side2 => exact (Kd.R_reads' HO_9.out).2.1); rintro e w26 ⟨v329, rfl, ho0, hb⟩; refine ⟨_, rfl, ?_⟩; have n0_ := Aside0.mk (Kd.R_below (by (with_reducible repeat (first | apply Kd.R_alloc | apply Kd.R_drewN | apply Kd.R_drew)); exact HO_4.out) hb); have n1_ := Aside0.mk (Kd.R_below (by (with_reducible repeat (first | apply Kd.R_alloc | apply Kd.R_drewN | apply Kd.R_drew)); exact HO_9.out) hb); have n2_ := Aside0.mk (Kd.R_lower ho0 (below_size (by repeat (first | (with_reducible first | exact HB.out | apply below_alloc | apply pw_below_drewN | apply below_drew1) | exact HB.out)))); have n3_ := Aside0.mk (below_step (by repeat (first | (with_reducible first | exact HB.out | apply below_alloc | apply pw_below_drewN | apply below_drew1) | exact HB.out)) hb); clear HO_4; clear HO_9; clear HB; have HO_4 := n0_; have HO_9 := n1_; have HO330 := n2_; have HB := n3_; clear n0_ n1_ n2_ n3_; (try clear hb); (try clear hb2); (try clear hk); (try clear hi); (try clear ho0); obtain ⟨Ao27, co27, eo27⟩ := Kd.R_slice HO330.out; subst eo27; obtain ⟨i028, hi028, _, hsz28, _⟩ := info_parts info4; obtain ⟨A28, hcut28, hA28, hC28⟩ := print_mid_of (P := Tryz.prog) Value.bool false 27 4 .i64 .i64 Tryz.underlying27 hi028 hsz28 A0 c0 l0 x5_2 (wrap64 (x5_2 + (t328.length : Int))) (of_decide_eq_true (by first | (with_reducible assumption) | assumption)) (by first | omega | exact of_decide_eq_true (by first | (with_reducible assumption) | assumption)) (of_decide_eq_true (by first | (with_reducible assumption) | assumption)) HC0.out; have HR331 := Aside0.mk (Kd.C_of_reads (h1 := fun _ => rfl) (hA28 _ (Kd.reads_of_C HR0.out))); have HC331 := Aside0.mk hC28; clear hA28 hC28 hi028 hsz28) | (go_at_call 16; rw [← B.cut_len l0 x5_2 (wrap64 (x5_2 + (t328.length : Int))) (of_decide_eq_true (by first | (with_reducible assumption) | assumption))]; (with_reducible refine (spec_BISameBits.calls k3 _ _ ((l0.take ((wrap64 (x5_2 + (t328.length : Int))) : Int).toNat).drop (x5_2 : Int).toNat) _ _ t328 true _ ?side1 ?side2 ?side3 ?side4 A17.out).mono ?_); (case side1 => repeat (first | exact (Kd.C_below HR331.out HB.out) | (with_reducible refine Kd.C_alloc ?_ _) | (with_reducible refine Kd.C_drewN ?_ _) | (with_reducible refine Kd.C_drew ?_))); (case side2 => exact HC331.out); (case side3 => repeat (first | exact (Kd.R_reads' HO330.out).2.2 | (with_reducible refine Kd.C_alloc ?_ _) | (with_reducible refine Kd.C_drewN ?_ _) | (with_reducible refine Kd.C_drew ?_))); (case side4 => exact (Kd.R_reads' HO330.out).2.1); rintro e w' ⟨rfl, ⟨nd, rfl⟩⟩))
                                go_meet
                                case rel => exact ⟨_, (wrap64 (x5_2 + (t328.length : Int))), (x7_2), (by first | rfl | (simp; done) | (simp [*]; done)), (by first | rfl | (simp; done) | (simp [*]; done)), H', ⟨by have := HK1.out; have := HK2.out; have := HK3.out; first | omega | exact Nat.le_refl _⟩, ⟨by (with_reducible repeat (first | apply Kd.R_alloc | apply Kd.R_drewN | apply Kd.R_drew)); exact Kd.R_mono HO_4.out (fun _ hk => trivial)⟩, ⟨by repeat (first | (with_reducible first | exact HB.out | apply below_alloc | apply pw_below_drewN | apply below_drew1) | exact HB.out)⟩⟩
                              · rw [if_neg c24] at H
                                have c24b0 : ((wrap64 (x5_2 + (t328.length : Int))) == (l0.length : Int)) = false := beq_eq_false_iff_ne.mpr c24
                                have c24b1 : ((wrap64 (x5_2 + (t328.length : Int))) != (l0.length : Int)) = true := bne_iff_ne.mpr c24
                                have H' := Aside0.mk H
                                clear H
                                obtain ⟨Ao29, co29, eo29⟩ := Kd.R_slice HO_9.out
                                subst eo29
                                go_wp2_with (first | ((with_reducible refine gate_callee (f := 38) rfl ?_); refine goesL_ (some 27) rfl rfl Tryz.func38 (by kernel_rfl) rfl #[.slice Ao29 x9_3.length co29] rfl (by (try simp only [List.map_toArray, List.map_cons, List.map_nil]); first | done | rfl | (simp only [List.length_drop, List.length_take]; rfl)) ?_; (with_reducible refine (spec_ODBars.calls k3 _ _ x9_3 t328 _ ?side1 ?side2 A12.out).mono ?_); (case side1 => repeat (first | exact (Kd.R_reads' HO_9.out).2.2 | (with_reducible refine Kd.C_alloc ?_ _) | (with_reducible refine Kd.C_drewN ?_ _) | (with_reducible refine Kd.C_drew ?_))); (case side2 => exact (Kd.R_reads' HO_9.out).2.1); rintro e w30 ⟨v329, rfl, ho0, hb⟩; refine ⟨_, rfl, ?_⟩; have n0_ := Aside0.mk (Kd.R_below (by (with_reducible repeat (first | apply Kd.R_alloc | apply Kd.R_drewN | apply Kd.R_drew)); exact HO_4.out) hb); have n1_ := Aside0.mk (Kd.R_below (by (with_reducible repeat (first | apply Kd.R_alloc | apply Kd.R_drewN | apply Kd.R_drew)); exact HO_9.out) hb); have n2_ := Aside0.mk (Kd.R_lower ho0 (below_size (by repeat (first | (with_reducible first | exact HB.out | apply below_alloc | apply pw_below_drewN | apply below_drew1) | exact HB.out)))); have n3_ := Aside0.mk (below_step (by repeat (first | (with_reducible first | exact HB.out | apply below_alloc | apply pw_below_drewN | apply below_drew1) | exact HB.out)) hb); clear HO_4; clear HO_9; clear HB; have HO_4 := n0_; have HO_9 := n1_; have HO330 := n2_; have HB := n3_; clear n0_ n1_ n2_ n3_; (try clear hb); (try clear hb2); (try clear hk); (try clear hi); (try clear ho0); obtain ⟨Ao31, co31, eo31⟩ := Kd.R_slice HO330.out; subst eo31; obtain ⟨i032, hi032, _, hsz32, _⟩ := info_parts info4; obtain ⟨A32, hcut32, hA32, hC32⟩ := print_mid_of (P := Tryz.prog) Value.bool false 27 4 .i64 .i64 Tryz.underlying27 hi032 hsz32 A0 c0 l0 x5_2 (wrap64 (x5_2 + (t328.length : Int))) (of_decide_eq_true (by first | (with_reducible assumption) | assumption)) (by first | omega | exact of_decide_eq_true (by first | (with_reducible assumption) | assumption)) (of_decide_eq_true (by first | (with_reducible assumption) | assumption)) HC0.out; have HR331 := Aside0.mk (Kd.C_of_reads (h1 := fun _ => rfl) (hA32 _ (Kd.reads_of_C HR0.out))); have HC331 := Aside0.mk hC32; clear hA32 hC32 hi032 hsz32) | (go_at_call 16; rw [← B.cut_len l0 x5_2 (wrap64 (x5_2 + (t328.length : Int))) (of_decide_eq_true (by first | (with_reducible assumption) | assumption))]; (with_reducible refine (spec_BISameBits.calls k3 _ _ ((l0.take ((wrap64 (x5_2 + (t328.length : Int))) : Int).toNat).drop (x5_2 : Int).toNat) _ _ t328 true _ ?side1 ?side2 ?side3 ?side4 A17.out).mono ?_); (case side1 => repeat (first | exact (Kd.C_below HR331.out HB.out) | (with_reducible refine Kd.C_alloc ?_ _) | (with_reducible refine Kd.C_drewN ?_ _) | (with_reducible refine Kd.C_drew ?_))); (case side2 => exact HC331.out); (case side3 => repeat (first | exact (Kd.R_reads' HO330.out).2.2 | (with_reducible refine Kd.C_alloc ?_ _) | (with_reducible refine Kd.C_drewN ?_ _) | (with_reducible refine Kd.C_drew ?_))); (case side4 => exact (Kd.R_reads' HO330.out).2.1); rintro e w' ⟨rfl, ⟨nd, rfl⟩⟩))
                                go_roundg k3
                                case measure => have := HK1.out; have := HK2.out; have := HK3.out; omega
                                case rel => exact ⟨(x5_2), (x6_2), (wrap64 (x7_2 + 1)), (by first | rfl | (simp; done) | (simp [*]; done)), (by first | rfl | (simp; done) | (simp [*]; done)), (by first | rfl | (simp; done) | (simp [*]; done)), H', ⟨by have := HK1.out; have := HK2.out; have := HK3.out; omega⟩, ⟨by (with_reducible repeat (first | apply Kd.R_alloc | apply Kd.R_drewN | apply Kd.R_drew)); exact Kd.R_mono HO_4.out (fun _ hk => trivial)⟩, ⟨by repeat (first | (with_reducible first | exact HB.out | apply below_alloc | apply pw_below_drewN | apply below_drew1) | exact HB.out)⟩⟩
                          · replace c18 := Bool.eq_false_iff.mpr c18
                            subst c18
                            have H1 : (spec_OD128Values.l1 k3 l0 x4_1 x5_2 x6_2 (wrap64 (x7_2 + 1))) = some (r1, r2) := by rw [if_neg (show ¬ (false = true) by decide)] at H; exact H
                            clear H
                            have H := H1
                            clear H1
                            have H' := Aside0.mk H
                            clear H
                            obtain ⟨Ao33, co33, eo33⟩ := Kd.R_slice HO_9.out
                            subst eo33
                            go_wp2_with (first | ((with_reducible refine gate_callee (f := 38) rfl ?_); refine goesL_ (some 27) rfl rfl Tryz.func38 (by kernel_rfl) rfl #[.slice Ao33 x9_3.length co33] rfl (by (try simp only [List.map_toArray, List.map_cons, List.map_nil]); first | done | rfl | (simp only [List.length_drop, List.length_take]; rfl)) ?_; (with_reducible refine (spec_ODBars.calls k3 _ _ x9_3 t328 _ ?side1 ?side2 A12.out).mono ?_); (case side1 => repeat (first | exact (Kd.R_reads' HO_9.out).2.2 | (with_reducible refine Kd.C_alloc ?_ _) | (with_reducible refine Kd.C_drewN ?_ _) | (with_reducible refine Kd.C_drew ?_))); (case side2 => exact (Kd.R_reads' HO_9.out).2.1); rintro e w34 ⟨v329, rfl, ho0, hb⟩; refine ⟨_, rfl, ?_⟩; have n0_ := Aside0.mk (Kd.R_below (by (with_reducible repeat (first | apply Kd.R_alloc | apply Kd.R_drewN | apply Kd.R_drew)); exact HO_4.out) hb); have n1_ := Aside0.mk (Kd.R_below (by (with_reducible repeat (first | apply Kd.R_alloc | apply Kd.R_drewN | apply Kd.R_drew)); exact HO_9.out) hb); have n2_ := Aside0.mk (Kd.R_lower ho0 (below_size (by repeat (first | (with_reducible first | exact HB.out | apply below_alloc | apply pw_below_drewN | apply below_drew1) | exact HB.out)))); have n3_ := Aside0.mk (below_step (by repeat (first | (with_reducible first | exact HB.out | apply below_alloc | apply pw_below_drewN | apply below_drew1) | exact HB.out)) hb); clear HO_4; clear HO_9; clear HB; have HO_4 := n0_; have HO_9 := n1_; have HO330 := n2_; have HB := n3_; clear n0_ n1_ n2_ n3_; (try clear hb); (try clear hb2); (try clear hk); (try clear hi); (try clear ho0); obtain ⟨Ao35, co35, eo35⟩ := Kd.R_slice HO330.out; subst eo35; obtain ⟨i036, hi036, _, hsz36, _⟩ := info_parts info4; obtain ⟨A36, hcut36, hA36, hC36⟩ := print_mid_of (P := Tryz.prog) Value.bool false 27 4 .i64 .i64 Tryz.underlying27 hi036 hsz36 A0 c0 l0 x5_2 (wrap64 (x5_2 + (t328.length : Int))) (of_decide_eq_true (by first | (with_reducible assumption) | assumption)) (by first | omega | exact of_decide_eq_true (by first | (with_reducible assumption) | assumption)) (of_decide_eq_true (by first | (with_reducible assumption) | assumption)) HC0.out; have HR331 := Aside0.mk (Kd.C_of_reads (h1 := fun _ => rfl) (hA36 _ (Kd.reads_of_C HR0.out))); have HC331 := Aside0.mk hC36; clear hA36 hC36 hi036 hsz36) | (go_at_call 16; rw [← B.cut_len l0 x5_2 (wrap64 (x5_2 + (t328.length : Int))) (of_decide_eq_true (by first | (with_reducible assumption) | assumption))]; (with_reducible refine (spec_BISameBits.calls k3 _ _ ((l0.take ((wrap64 (x5_2 + (t328.length : Int))) : Int).toNat).drop (x5_2 : Int).toNat) _ _ t328 false _ ?side1 ?side2 ?side3 ?side4 A17.out).mono ?_); (case side1 => repeat (first | exact (Kd.C_below HR331.out HB.out) | (with_reducible refine Kd.C_alloc ?_ _) | (with_reducible refine Kd.C_drewN ?_ _) | (with_reducible refine Kd.C_drew ?_))); (case side2 => exact HC331.out); (case side3 => repeat (first | exact (Kd.R_reads' HO330.out).2.2 | (with_reducible refine Kd.C_alloc ?_ _) | (with_reducible refine Kd.C_drewN ?_ _) | (with_reducible refine Kd.C_drew ?_))); (case side4 => exact (Kd.R_reads' HO330.out).2.1); rintro e w' ⟨rfl, ⟨nd, rfl⟩⟩))
                            go_roundg k3
                            case measure => have := HK1.out; have := HK2.out; have := HK3.out; omega
                            case rel => exact ⟨(x5_2), (x6_2), (wrap64 (x7_2 + 1)), (by first | rfl | (simp; done) | (simp [*]; done)), (by first | rfl | (simp; done) | (simp [*]; done)), (by first | rfl | (simp; done) | (simp [*]; done)), H', ⟨by have := HK1.out; have := HK2.out; have := HK3.out; omega⟩, ⟨by (with_reducible repeat (first | apply Kd.R_alloc | apply Kd.R_drewN | apply Kd.R_drew)); exact Kd.R_mono HO_4.out (fun _ hk => trivial)⟩, ⟨by repeat (first | (with_reducible first | exact HB.out | apply below_alloc | apply pw_below_drewN | apply below_drew1) | exact HB.out)⟩⟩
                        · rw [if_neg c15] at H
                          exact absurd H (by simp)
                      · rw [if_neg c14] at H
                        exact absurd H (by simp)
                    · rw [if_neg c13] at H
                      have c13b0 : decide ((wrap64 (x5_2 + (t328.length : Int))) ≤ (l0.length : Int)) = false := decide_eq_false c13
                      clear c13
                      have H' := Aside0.mk H
                      clear H
                      obtain ⟨Ao37, co37, eo37⟩ := Kd.R_slice HO_9.out
                      subst eo37
                      go_wp2_with (first | ((with_reducible refine gate_callee (f := 38) rfl ?_); refine goesL_ (some 27) rfl rfl Tryz.func38 (by kernel_rfl) rfl #[.slice Ao37 x9_3.length co37] rfl (by (try simp only [List.map_toArray, List.map_cons, List.map_nil]); first | done | rfl | (simp only [List.length_drop, List.length_take]; rfl)) ?_; (with_reducible refine (spec_ODBars.calls k3 _ _ x9_3 t328 _ ?side1 ?side2 A12.out).mono ?_); (case side1 => repeat (first | exact (Kd.R_reads' HO_9.out).2.2 | (with_reducible refine Kd.C_alloc ?_ _) | (with_reducible refine Kd.C_drewN ?_ _) | (with_reducible refine Kd.C_drew ?_))); (case side2 => exact (Kd.R_reads' HO_9.out).2.1); rintro e w38 ⟨v329, rfl, ho0, hb⟩; refine ⟨_, rfl, ?_⟩; have n0_ := Aside0.mk (Kd.R_below (by (with_reducible repeat (first | apply Kd.R_alloc | apply Kd.R_drewN | apply Kd.R_drew)); exact HO_4.out) hb); have n1_ := Aside0.mk (Kd.R_below (by (with_reducible repeat (first | apply Kd.R_alloc | apply Kd.R_drewN | apply Kd.R_drew)); exact HO_9.out) hb); have n2_ := Aside0.mk (Kd.R_lower ho0 (below_size (by repeat (first | (with_reducible first | exact HB.out | apply below_alloc | apply pw_below_drewN | apply below_drew1) | exact HB.out)))); have n3_ := Aside0.mk (below_step (by repeat (first | (with_reducible first | exact HB.out | apply below_alloc | apply pw_below_drewN | apply below_drew1) | exact HB.out)) hb); clear HO_4; clear HO_9; clear HB; have HO_4 := n0_; have HO_9 := n1_; have HO330 := n2_; have HB := n3_; clear n0_ n1_ n2_ n3_; (try clear hb); (try clear hb2); (try clear hk); (try clear hi); (try clear ho0); obtain ⟨Ao39, co39, eo39⟩ := Kd.R_slice HO330.out; subst eo39))
                      go_roundg k3
                      case measure => have := HK1.out; have := HK2.out; have := HK3.out; omega
                      case rel => exact ⟨(x5_2), (x6_2), (wrap64 (x7_2 + 1)), (by first | rfl | (simp; done) | (simp [*]; done)), (by first | rfl | (simp; done) | (simp [*]; done)), (by first | rfl | (simp; done) | (simp [*]; done)), H', ⟨by have := HK1.out; have := HK2.out; have := HK3.out; omega⟩, ⟨by (with_reducible repeat (first | apply Kd.R_alloc | apply Kd.R_drewN | apply Kd.R_drew)); exact Kd.R_mono HO_4.out (fun _ hk => trivial)⟩, ⟨by repeat (first | (with_reducible first | exact HB.out | apply below_alloc | apply pw_below_drewN | apply below_drew1) | exact HB.out)⟩⟩
            · rw [if_neg c3] at H
              have c3b0 : decide (x7_2 ≤ 106) = false := decide_eq_false c3
              clear c3
              (first | rw [c3b0] | (simp only [i64_w, i32_w]; rw [c3b0]) | skip)
              have H' := Aside0.mk H
              clear H
              go_wp2
              go_meet
              case rel => exact ⟨_, (x5_2), (x6_2), (by first | rfl | (simp; done) | (simp [*]; done)), (by first | rfl | (simp; done) | (simp [*]; done)), H', ⟨by have := HK1.out; have := HK2.out; first | omega | exact Nat.le_refl _⟩, ⟨by (with_reducible repeat (first | apply Kd.R_alloc | apply Kd.R_drewN | apply Kd.R_drew)); exact HO_4.out⟩, ⟨by repeat (first | (with_reducible first | exact HB.out | apply below_alloc | apply pw_below_drewN | apply below_drew1) | exact HB.out)⟩⟩
      case rest =>
        clear HC2
        try clear c1
        try clear c2
        try clear p2
        try clear c3
        try clear c3b0
        try clear c4
        try clear c6
        try clear c6b0
        try clear p6
        try clear c7
        try clear c13
        try clear c13b0
        try clear c14
        try clear c14b0
        try clear c14b1
        try clear c15
        try clear c15b0
        try clear c15b1
        try clear c16
        try clear c16b0
        try clear c18
        try clear c19
        try clear c19b0
        try clear c24
        try clear c24b0
        try clear c24b1
        try clear c26
        try clear c38
        try clear p2
        obtain ⟨kq, x5_1, x6_1, rfl, rfl, HA, HJ1, HO_4, HB⟩ := hcut
        cases kq with
        | zero => exact absurd HA.out (by simp [spec_OD128Values.j3])
        | succ kj1 =>
          have H := HA.out
          clear HA
          simp only [spec_OD128Values.j3] at H
          have HC40 := Aside0.mk H
          clear H
          go_upto_region 16 with (fail)
          go_cut [70] (fun v70 wc => ∃ (kq : Nat) (x70_39 : Bool), v70 = .bool x70_39 ∧ Aside0 (spec_OD128Values.j4 kq l0 x4_1 x5_1 x6_1 x70_39 = some (r1, r2)) ∧ Aside0 (kq ≤ kj1) ∧ Aside0 (Kd.R (Kd.int .i64) 3 wc w.heap.size (fun _ => True) u4 x4_1) ∧ Aside0 (Below w.heap.size w wc))
          case first =>
            have H := HC40.out
            clear HC40
            by_cases c41 : x6_1 < 0
            · rw [if_pos c41] at H
              have c41b0 : decide (x6_1 < 0) = true := decide_eq_true c41
              clear c41
              (first | rw [c41b0] | (simp only [i64_w, i32_w]; rw [c41b0]) | skip)
              have H' := Aside0.mk H
              clear H
              go_wp2
              go_meet
              case rel => exact ⟨_, (true), (by first | rfl | (simp; done) | (simp [*]; done)), H', ⟨by have := HK1.out; have := HJ1.out; first | omega | exact Nat.le_refl _⟩, ⟨by (with_reducible repeat (first | apply Kd.R_alloc | apply Kd.R_drewN | apply Kd.R_drew)); exact HO_4.out⟩, ⟨by repeat (first | (with_reducible first | exact HB.out | apply below_alloc | apply pw_below_drewN | apply below_drew1) | exact HB.out)⟩⟩
            · rw [if_neg c41] at H
              have c41b0 : decide (x6_1 < 0) = false := decide_eq_false c41
              clear c41
              (first | rw [c41b0] | (simp only [i64_w, i32_w]; rw [c41b0]) | skip)
              have H' := Aside0.mk H
              clear H
              obtain ⟨Ao42, co42, eo42⟩ := Kd.R_slice HO_4.out
              subst eo42
              go_wp2
              go_meet
              case rel => exact ⟨_, (decide ((x4_1.length : Int) > 200)), (by first | rfl | (simp; done) | (simp [*]; done)), H', ⟨by have := HK1.out; have := HJ1.out; first | omega | exact Nat.le_refl _⟩, ⟨by (with_reducible repeat (first | apply Kd.R_alloc | apply Kd.R_drewN | apply Kd.R_drew)); exact HO_4.out⟩, ⟨by repeat (first | (with_reducible first | exact HB.out | apply below_alloc | apply pw_below_drewN | apply below_drew1) | exact HB.out)⟩⟩
          case rest =>
            clear HC40
            try clear c1
            try clear c2
            try clear p2
            try clear c3
            try clear c3b0
            try clear c4
            try clear c6
            try clear c6b0
            try clear p6
            try clear c7
            try clear c13
            try clear c13b0
            try clear c14
            try clear c14b0
            try clear c14b1
            try clear c15
            try clear c15b0
            try clear c15b1
            try clear c16
            try clear c16b0
            try clear c18
            try clear c19
            try clear c19b0
            try clear c24
            try clear c24b0
            try clear c24b1
            try clear c26
            try clear c38
            try clear c41
            try clear c41b0
            try clear p2
            try clear p6
            obtain ⟨kq, x70_39, rfl, HA, HJ39, HO_4, HB⟩ := hcut
            cases kq with
            | zero => exact absurd HA.out (by simp [spec_OD128Values.j4])
            | succ kj39 =>
              have H := HA.out
              clear HA
              simp only [spec_OD128Values.j4] at H
              by_cases c43 : x70_39 = true
              · subst c43
                have H1 : (some (([] : List Int), false)) = some (r1, r2) := by rw [if_pos rfl] at H; exact H
                clear H
                have H := H1
                clear H1
                simp only [Option.some.injEq, Prod.mk.injEq] at H
                obtain ⟨rfl, rfl⟩ := H
                go_wp2
                go_ret2
                exact ⟨_, by first | rfl | (simp [errW_none, errW_some] <;> rfl) | (simp [*, errW_none, errW_some] <;> rfl), by first | exact Kd.R_nil _ _ _ _ _ | exact Kd.N_nil _ _ _ _ _ | exact Kd.V_nil _ _ _ _ _ | exact Kd.Q_nil _ _ _ _ _ | exact Kd.S_nil _ _ _ _ _, by repeat (first | (with_reducible first | exact HB.out | apply below_alloc | apply pw_below_drewN | apply below_drew1) | exact HB.out)⟩
              · replace c43 := Bool.eq_false_iff.mpr c43
                subst c43
                have H1 : (if x6_1 = 106 then (if (x4_1.length : Int) < 3 then (some (([] : List Int), false)) else (if 0 < (x4_1.length : Int) then (if (rd x4_1 0) < 103 then (some (([] : List Int), false)) else (if (rd x4_1 0) > 105 then (some (([] : List Int), false)) else (if 0 ≤ (wrap64 ((x4_1.length : Int) - 1)) then (if (wrap64 ((x4_1.length : Int) - 1)) ≤ (x4_1.length : Int) then ((spec_OD128Check.f kj39 (x4_1.take ((wrap64 ((x4_1.length : Int) - 1)) : Int).toNat)).bind fun t339 => (if (wrap64 ((x4_1.length : Int) - 1)) < (x4_1.length : Int) then (if t339 = (rd x4_1 (wrap64 ((x4_1.length : Int) - 1))) then (some ((x4_1.take ((wrap64 ((x4_1.length : Int) - 1)) : Int).toNat), true)) else (some (([] : List Int), false))) else (none))) else (none)) else (none)))) else (none))) else (if x4_1.length < 17592186044416 then (spec_OD128Values.l0 kj39 l0 (x4_1 ++ [x6_1]) x5_1) else (none))) = some (r1, r2) := by rw [if_neg (show ¬ (false = true) by decide)] at H; exact H
                clear H
                have H := H1
                clear H1
                by_cases c44 : x6_1 = 106
                · rw [if_pos c44] at H
                  have c44b0 : (x6_1 == 106) = true := beq_iff_eq.mpr c44
                  have c44b1 : (x6_1 != 106) = false := bne_eq_false_iff_eq.mpr c44
                  clear c44
                  by_cases c45 : (x4_1.length : Int) < 3
                  · rw [if_pos c45] at H
                    have c45b0 : decide ((x4_1.length : Int) < 3) = true := decide_eq_true c45
                    have c45b1 : decide (x4_1.length < 3) = true := decide_eq_true (by omega)
                    clear c45
                    simp only [Option.some.injEq, Prod.mk.injEq] at H
                    obtain ⟨rfl, rfl⟩ := H
                    try go_wp2
                    have n0_ := Aside0.mk (Kd.R_drew HO_4.out)
                    have n1_ := Aside0.mk (below_drew1 HB.out)
                    clear HO_4
                    clear HB
                    have HO_4 := n0_
                    have HB := n1_
                    clear n0_ n1_
                    obtain ⟨Ao47, co47, eo47⟩ := Kd.R_slice HO_4.out
                    (first | subst eo47 | (injection eo47 with f1_ f2_ f3_; have f4_ := f1_.symm; have f5_ := f3_.symm; clear f1_ f2_ f3_; subst f4_; subst f5_))
                    refine start_ (n := 30) (S := fun w' => True) (ds := []) #[false, false, false, false, false, false, false, false, false, false, false, false, false, false, false, false, false, false, false, false, false, false, false, false, false, false, false, false, false, false] (by kernel_rfl) rfl rfl trivial (fun hHeld => ?_); refine with_tabW spec_OD128Values.tab20 spec_OD128Values.bits20 (fun HT_ HW_ => ?_)
                    generalize wc.drew = w46 at HO_4 HB hHeld ⊢
                    refine pure_ (i := 0) (N := some 77) (v := ?_) (a' := ?_) #[true, false, false, false, false, false, false, false, false, false, false, false, false, false, false, false, false, false, false, false, false, false, false, false, false, false, false, false, false, false] rfl rfl (any_of HT_.out (by kernel_rfl)) (fun _ _ _ h => h) (Or.inl ⟨by rfl, ?_⟩) ?_ ?_
                    rotate_left
                    · intro w'
                      go_simp
                      with_reducible rfl
                    rotate_left
                    · simp only [Act.put, List.setIfInBounds_toArray, List.set_cons_zero, List.set_cons_succ, i64_w, i32_w]
                      rfl
                    refine pure_ (i := 1) (N := some 78) (v := ?_) (a' := ?_) #[true, true, false, false, false, false, false, false, false, false, false, false, false, false, false, false, false, false, false, false, false, false, false, false, false, false, false, false, false, false] rfl rfl (any_of HT_.out (by kernel_rfl)) (fun _ _ _ h => h) (Or.inl ⟨by rfl, ?_⟩) ?_ ?_
                    rotate_left
                    · intro w'
                      go_simp
                      with_reducible rfl
                    rotate_left
                    · simp only [Act.put, List.setIfInBounds_toArray, List.set_cons_zero, List.set_cons_succ, i64_w, i32_w]
                      rfl
                    refine pure_ (i := 2) (N := some 79) (v := ?_) (a' := ?_) #[true, true, true, false, false, false, false, false, false, false, false, false, false, false, false, false, false, false, false, false, false, false, false, false, false, false, false, false, false, false] rfl rfl (any_of HT_.out (by kernel_rfl)) (fun _ _ _ h => h) (Or.inl ⟨by rfl, ?_⟩) ?_ ?_
                    rotate_left
                    · intro w'
                      go_simp
                      with_reducible rfl
                    rotate_left
                    · simp only [Act.put, List.setIfInBounds_toArray, List.set_cons_zero, List.set_cons_succ, i64_w, i32_w]
                      rfl
                    refine pure_ (i := 3) (N := some 80) (v := ?_) (a' := ?_) #[true, true, true, true, false, false, false, false, false, false, false, false, false, false, false, false, false, false, false, false, false, false, false, false, false, false, false, false, false, false] rfl rfl (any_of HT_.out (by kernel_rfl)) (fun _ _ _ h => h) (Or.inl ⟨by rfl, ?_⟩) ?_ ?_
                    rotate_left
                    · intro w'
                      go_simp
                      with_reducible rfl
                    rotate_left
                    · simp only [Act.put, List.setIfInBounds_toArray, List.set_cons_zero, List.set_cons_succ, i64_w, i32_w]
                      rfl
                    refine pure_ (i := 4) (N := some 81) (v := undef) (a' := ?_) #[true, true, true, true, true, false, false, false, false, false, false, false, false, false, false, false, false, false, false, false, false, false, false, false, false, false, false, false, false, false] rfl rfl (any_of HT_.out (by kernel_rfl)) (fun _ _ _ h => h) (Or.inr ⟨by rfl, rfl⟩) ?_ ?_
                    rotate_left
                    · simp only [Act.put, List.setIfInBounds_toArray, List.set_cons_zero, List.set_cons_succ, i64_w, i32_w]
                      rfl
                    refine pure_ (i := 5) (N := some 82) (v := undef) (a' := ?_) #[true, true, true, true, true, true, false, false, false, false, false, false, false, false, false, false, false, false, false, false, false, false, false, false, false, false, false, false, false, false] rfl rfl (any_of HT_.out (by kernel_rfl)) (fun _ _ _ h => h) (Or.inr ⟨by rfl, rfl⟩) ?_ ?_
                    rotate_left
                    · simp only [Act.put, List.setIfInBounds_toArray, List.set_cons_zero, List.set_cons_succ, i64_w, i32_w]
                      rfl
                    refine pure_ (i := 6) (N := some 83) (v := undef) (a' := ?_) #[true, true, true, true, true, true, true, false, false, false, false, false, false, false, false, false, false, false, false, false, false, false, false, false, false, false, false, false, false, false] rfl rfl (any_of HT_.out (by kernel_rfl)) (fun _ _ _ h => h) (Or.inr ⟨by rfl, rfl⟩) ?_ ?_
                    rotate_left
                    · simp only [Act.put, List.setIfInBounds_toArray, List.set_cons_zero, List.set_cons_succ, i64_w, i32_w]
                      rfl
                    refine pure_ (i := 7) (N := some 84) (v := undef) (a' := ?_) #[true, true, true, true, true, true, true, true, false, false, false, false, false, false, false, false, false, false, false, false, false, false, false, false, false, false, false, false, false, false] rfl rfl (any_of HT_.out (by kernel_rfl)) (fun _ _ _ h => h) (Or.inr ⟨by rfl, rfl⟩) ?_ ?_
                    rotate_left
                    · simp only [Act.put, List.setIfInBounds_toArray, List.set_cons_zero, List.set_cons_succ, i64_w, i32_w]
                      rfl
                    refine pure_ (i := 8) (N := some 85) (v := ?_) (a' := ?_) #[true, true, true, true, true, true, true, true, true, false, false, false, false, false, false, false, false, false, false, false, false, false, false, false, false, false, false, false, false, false] rfl rfl (any_of HT_.out (by kernel_rfl)) (fun _ _ _ h => h) (Or.inl ⟨by rfl, ?_⟩) ?_ ?_
                    rotate_left
                    · intro w'
                      go_simp
                      with_reducible rfl
                    rotate_left
                    · simp only [Act.put, List.setIfInBounds_toArray, List.set_cons_zero, List.set_cons_succ, i64_w, i32_w]
                      rfl
                    refine pure_ (i := 9) (N := some 86) (v := ?_) (a' := ?_) #[true, true, true, true, true, true, true, true, true, true, false, false, false, false, false, false, false, false, false, false, false, false, false, false, false, false, false, false, false, false] rfl rfl (any_of HT_.out (by kernel_rfl)) (fun _ _ _ h => h) (Or.inl ⟨by rfl, ?_⟩) ?_ ?_
                    rotate_left
                    · intro w'
                      go_simp
                      with_reducible rfl
                    rotate_left
                    · simp only [Act.put, List.setIfInBounds_toArray, List.set_cons_zero, List.set_cons_succ, i64_w, i32_w]
                      rfl
                    refine pure_ (i := 10) (N := some 87) (v := undef) (a' := ?_) #[true, true, true, true, true, true, true, true, true, true, true, false, false, false, false, false, false, false, false, false, false, false, false, false, false, false, false, false, false, false] rfl rfl (any_of HT_.out (by kernel_rfl)) (fun _ _ _ h => h) (Or.inr ⟨by rfl, rfl⟩) ?_ ?_
                    rotate_left
                    · simp only [Act.put, List.setIfInBounds_toArray, List.set_cons_zero, List.set_cons_succ, i64_w, i32_w]
                      rfl
                    refine pure_ (i := 11) (N := some 88) (v := undef) (a' := ?_) #[true, true, true, true, true, true, true, true, true, true, true, true, false, false, false, false, false, false, false, false, false, false, false, false, false, false, false, false, false, false] rfl rfl (any_of HT_.out (by kernel_rfl)) (fun _ _ _ h => h) (Or.inr ⟨by rfl, rfl⟩) ?_ ?_
                    rotate_left
                    · simp only [Act.put, List.setIfInBounds_toArray, List.set_cons_zero, List.set_cons_succ, i64_w, i32_w]
                      rfl
                    refine pure_ (i := 12) (N := some 89) (v := undef) (a' := ?_) #[true, true, true, true, true, true, true, true, true, true, true, true, true, false, false, false, false, false, false, false, false, false, false, false, false, false, false, false, false, false] rfl rfl (any_of HT_.out (by kernel_rfl)) (fun _ _ _ h => h) (Or.inr ⟨by rfl, rfl⟩) ?_ ?_
                    rotate_left
                    · simp only [Act.put, List.setIfInBounds_toArray, List.set_cons_zero, List.set_cons_succ, i64_w, i32_w]
                      rfl
                    refine pure_ (i := 13) (N := some 90) (v := undef) (a' := ?_) #[true, true, true, true, true, true, true, true, true, true, true, true, true, true, false, false, false, false, false, false, false, false, false, false, false, false, false, false, false, false] rfl rfl (any_of HT_.out (by kernel_rfl)) (fun _ _ _ h => h) (Or.inr ⟨by rfl, rfl⟩) ?_ ?_
                    rotate_left
                    · simp only [Act.put, List.setIfInBounds_toArray, List.set_cons_zero, List.set_cons_succ, i64_w, i32_w]
                      rfl
                    refine pure_ (i := 14) (N := some 91) (v := ?_) (a' := ?_) #[true, true, true, true, true, true, true, true, true, true, true, true, true, true, true, false, false, false, false, false, false, false, false, false, false, false, false, false, false, false] rfl rfl (any_of HT_.out (by kernel_rfl)) (fun _ _ _ h => h) (Or.inl ⟨by rfl, ?_⟩) ?_ ?_
                    rotate_left
                    · intro w'
                      go_simp
                      with_reducible rfl
                    rotate_left
                    · simp only [Act.put, List.setIfInBounds_toArray, List.set_cons_zero, List.set_cons_succ, i64_w, i32_w]
                      rfl
                    refine pure_ (i := 15) (N := some 92) (v := ?_) (a' := ?_) #[true, true, true, true, true, true, true, true, true, true, true, true, true, true, true, true, false, false, false, false, false, false, false, false, false, false, false, false, false, false] rfl rfl (any_of HT_.out (by kernel_rfl)) (fun _ _ _ h => h) (Or.inl ⟨by rfl, ?_⟩) ?_ ?_
                    rotate_left
                    · intro w'
                      go_simp
                      with_reducible rfl
                    rotate_left
                    · simp only [Act.put, List.setIfInBounds_toArray, List.set_cons_zero, List.set_cons_succ, i64_w, i32_w]
                      rfl
                    refine pure_ (i := 16) (N := some 93) (v := undef) (a' := ?_) #[true, true, true, true, true, true, true, true, true, true, true, true, true, true, true, true, true, false, false, false, false, false, false, false, false, false, false, false, false, false] rfl rfl (any_of HT_.out (by kernel_rfl)) (fun _ _ _ h => h) (Or.inr ⟨by rfl, rfl⟩) ?_ ?_
                    rotate_left
                    · simp only [Act.put, List.setIfInBounds_toArray, List.set_cons_zero, List.set_cons_succ, i64_w, i32_w]
                      rfl
                    refine pure_ (i := 17) (N := some 94) (v := undef) (a' := ?_) #[true, true, true, true, true, true, true, true, true, true, true, true, true, true, true, true, true, true, false, false, false, false, false, false, false, false, false, false, false, false] rfl rfl (any_of HT_.out (by kernel_rfl)) (fun _ _ _ h => h) (Or.inr ⟨by rfl, rfl⟩) ?_ ?_
                    rotate_left
                    · simp only [Act.put, List.setIfInBounds_toArray, List.set_cons_zero, List.set_cons_succ, i64_w, i32_w]
                      rfl
                    refine pure_ (i := 18) (N := some 95) (v := undef) (a' := ?_) #[true, true, true, true, true, true, true, true, true, true, true, true, true, true, true, true, true, true, true, false, false, false, false, false, false, false, false, false, false, false] rfl rfl (any_of HT_.out (by kernel_rfl)) (fun _ _ _ h => h) (Or.inr ⟨by rfl, rfl⟩) ?_ ?_
                    rotate_left
                    · simp only [Act.put, List.setIfInBounds_toArray, List.set_cons_zero, List.set_cons_succ, i64_w, i32_w]
                      rfl
                    refine pure_ (i := 19) (N := some 96) (v := undef) (a' := ?_) #[true, true, true, true, true, true, true, true, true, true, true, true, true, true, true, true, true, true, true, true, false, false, false, false, false, false, false, false, false, false] rfl rfl (any_of HT_.out (by kernel_rfl)) (fun _ _ _ h => h) (Or.inr ⟨by rfl, rfl⟩) ?_ ?_
                    rotate_left
                    · simp only [Act.put, List.setIfInBounds_toArray, List.set_cons_zero, List.set_cons_succ, i64_w, i32_w]
                      rfl
                    refine pure_ (i := 20) (N := some 97) (v := undef) (a' := ?_) #[true, true, true, true, true, true, true, true, true, true, true, true, true, true, true, true, true, true, true, true, true, false, false, false, false, false, false, false, false, false] rfl rfl (any_of HT_.out (by kernel_rfl)) (fun _ _ _ h => h) (Or.inr ⟨by rfl, rfl⟩) ?_ ?_
                    rotate_left
                    · simp only [Act.put, List.setIfInBounds_toArray, List.set_cons_zero, List.set_cons_succ, i64_w, i32_w]
                      rfl
                    refine pure_ (i := 21) (N := some 98) (v := undef) (a' := ?_) #[true, true, true, true, true, true, true, true, true, true, true, true, true, true, true, true, true, true, true, true, true, true, false, false, false, false, false, false, false, false] rfl rfl (any_of HT_.out (by kernel_rfl)) (fun _ _ _ h => h) (Or.inr ⟨by rfl, rfl⟩) ?_ ?_
                    rotate_left
                    · simp only [Act.put, List.setIfInBounds_toArray, List.set_cons_zero, List.set_cons_succ, i64_w, i32_w]
                      rfl
                    refine pure_ (i := 22) (N := some 99) (v := undef) (a' := ?_) #[true, true, true, true, true, true, true, true, true, true, true, true, true, true, true, true, true, true, true, true, true, true, true, false, false, false, false, false, false, false] rfl rfl (any_of HT_.out (by kernel_rfl)) (fun _ _ _ h => h) (Or.inr ⟨by rfl, rfl⟩) ?_ ?_
                    rotate_left
                    · simp only [Act.put, List.setIfInBounds_toArray, List.set_cons_zero, List.set_cons_succ, i64_w, i32_w]
                      rfl
                    refine pure_ (i := 23) (N := some 100) (v := undef) (a' := ?_) #[true, true, true, true, true, true, true, true, true, true, true, true, true, true, true, true, true, true, true, true, true, true, true, true, false, false, false, false, false, false] rfl rfl (any_of HT_.out (by kernel_rfl)) (fun _ _ _ h => h) (Or.inr ⟨by rfl, rfl⟩) ?_ ?_
                    rotate_left
                    · simp only [Act.put, List.setIfInBounds_toArray, List.set_cons_zero, List.set_cons_succ, i64_w, i32_w]
                      rfl
                    refine pure_ (i := 24) (N := some 101) (v := undef) (a' := ?_) #[true, true, true, true, true, true, true, true, true, true, true, true, true, true, true, true, true, true, true, true, true, true, true, true, true, false, false, false, false, false] rfl rfl (any_of HT_.out (by kernel_rfl)) (fun _ _ _ h => h) (Or.inr ⟨by rfl, rfl⟩) ?_ ?_
                    rotate_left
                    · simp only [Act.put, List.setIfInBounds_toArray, List.set_cons_zero, List.set_cons_succ, i64_w, i32_w]
                      rfl
                    refine pure_ (i := 25) (N := some 102) (v := undef) (a' := ?_) #[true, true, true, true, true, true, true, true, true, true, true, true, true, true, true, true, true, true, true, true, true, true, true, true, true, true, false, false, false, false] rfl rfl (any_of HT_.out (by kernel_rfl)) (fun _ _ _ h => h) (Or.inr ⟨by rfl, rfl⟩) ?_ ?_
                    rotate_left
                    · simp only [Act.put, List.setIfInBounds_toArray, List.set_cons_zero, List.set_cons_succ, i64_w, i32_w]
                      rfl
                    refine pure_ (i := 26) (N := some 103) (v := undef) (a' := ?_) #[true, true, true, true, true, true, true, true, true, true, true, true, true, true, true, true, true, true, true, true, true, true, true, true, true, true, true, false, false, false] rfl rfl (any_of HT_.out (by kernel_rfl)) (fun _ _ _ h => h) (Or.inr ⟨by rfl, rfl⟩) ?_ ?_
                    rotate_left
                    · simp only [Act.put, List.setIfInBounds_toArray, List.set_cons_zero, List.set_cons_succ, i64_w, i32_w]
                      rfl
                    refine pure_ (i := 27) (N := some 104) (v := undef) (a' := ?_) #[true, true, true, true, true, true, true, true, true, true, true, true, true, true, true, true, true, true, true, true, true, true, true, true, true, true, true, true, false, false] rfl rfl (any_of HT_.out (by kernel_rfl)) (fun _ _ _ h => h) (Or.inr ⟨by rfl, rfl⟩) ?_ ?_
                    rotate_left
                    · simp only [Act.put, List.setIfInBounds_toArray, List.set_cons_zero, List.set_cons_succ, i64_w, i32_w]
                      rfl
                    refine pure_ (i := 28) (N := some 105) (v := undef) (a' := ?_) #[true, true, true, true, true, true, true, true, true, true, true, true, true, true, true, true, true, true, true, true, true, true, true, true, true, true, true, true, true, false] rfl rfl (any_of HT_.out (by kernel_rfl)) (fun _ _ _ h => h) (Or.inr ⟨by rfl, rfl⟩) ?_ ?_
                    rotate_left
                    · simp only [Act.put, List.setIfInBounds_toArray, List.set_cons_zero, List.set_cons_succ, i64_w, i32_w]
                      rfl
                    refine pure_ (i := 29) (N := some 106) (v := ?_) (a' := ?_) #[true, true, true, true, true, true, true, true, true, true, true, true, true, true, true, true, true, true, true, true, true, true, true, true, true, true, true, true, true, true] rfl rfl (any_of HT_.out (by kernel_rfl)) (fun _ _ _ h => h) (Or.inl ⟨by rfl, ?_⟩) ?_ ?_
                    rotate_left
                    · intro w'
                      go_simp
                      with_reducible rfl
                    rotate_left
                    · simp only [Act.put, List.setIfInBounds_toArray, List.set_cons_zero, List.set_cons_succ, i64_w, i32_w]
                      rfl
                    refine done_ (done_of HT_.out (by kernel_rfl)) ?_
                    try go_wp2
                    go_ret2
                    exact ⟨_, by first | rfl | (simp [errW_none, errW_some] <;> rfl) | (simp [*, errW_none, errW_some] <;> rfl), by first | exact Kd.R_nil _ _ _ _ _ | exact Kd.N_nil _ _ _ _ _ | exact Kd.V_nil _ _ _ _ _ | exact Kd.Q_nil _ _ _ _ _ | exact Kd.S_nil _ _ _ _ _, by repeat (first | (with_reducible first | exact HB.out | apply below_alloc | apply pw_below_drewN | apply below_drew1) | exact HB.out)⟩
                  · rw [if_neg c45] at H
                    have c45b0 : decide ((x4_1.length : Int) < 3) = false := decide_eq_false c45
                    have c45b1 : decide (x4_1.length < 3) = false := decide_eq_false (by omega)
                    clear c45
                    by_cases c48 : 0 < (x4_1.length : Int)
                    · rw [if_pos c48] at H
                      have c48b0 : decide (0 < (x4_1.length : Int)) = true := decide_eq_true c48
                      have c48b1 : decide (0 < x4_1.length) = true := decide_eq_true (by omega)
                      clear c48
                      by_cases c49 : (rd x4_1 0) < 103
                      · rw [if_pos c49] at H
                        have c49b0 : decide ((rd x4_1 0) < 103) = true := decide_eq_true c49
                        clear c49
                        simp only [Option.some.injEq, Prod.mk.injEq] at H
                        obtain ⟨rfl, rfl⟩ := H
                        try go_wp2
                        have n0_ := Aside0.mk (Kd.R_drew HO_4.out)
                        have n1_ := Aside0.mk (below_drew1 HB.out)
                        clear HO_4
                        clear HB
                        have HO_4 := n0_
                        have HB := n1_
                        clear n0_ n1_
                        obtain ⟨Ao51, co51, eo51⟩ := Kd.R_slice HO_4.out
                        (first | subst eo51 | (injection eo51 with f1_ f2_ f3_; have f4_ := f1_.symm; have f5_ := f3_.symm; clear f1_ f2_ f3_; subst f4_; subst f5_))
                        have p333 : 0 ≤ (0 : Int) := (by omega)
                        have q333 : 0 < (x4_1.length : Int) := of_decide_eq_true (by first | (with_reducible assumption) | assumption)
                        obtain ⟨ad333, e333, hx333_0⟩ := Kd.at_int (Kd.R_reads' HO_4.out).2.2 0 p333 q333
                        cases e333
                        have qi333 : (0 < x4_1.length) = True := eq_true (by omega)
                        (try rw [show ((0 : Int)).toNat = 0 from rfl] at hx333_0)
                        (try rw [Addr.add_zero'] at hx333_0)
                        replace p333 := eq_true p333
                        replace q333 := eq_true q333
                        refine start_ (n := 30) (S := fun w' => w'.cell? ad333 = some (.int .i64 (rd x4_1 0))) (ds := []) #[false, false, false, false, false, false, false, false, false, false, false, false, false, false, false, false, false, false, false, false, false, false, false, false, false, false, false, false, false, false] (by kernel_rfl) rfl rfl (hx333_0) (fun hHeld => ?_); refine with_tabW spec_OD128Values.tab20 spec_OD128Values.bits20 (fun HT_ HW_ => ?_)
                        generalize wc.drew = w50 at HO_4 HB hx333_0 hHeld ⊢
                        refine pure_ (i := 0) (N := some 77) (v := ?_) (a' := ?_) #[true, false, false, false, false, false, false, false, false, false, false, false, false, false, false, false, false, false, false, false, false, false, false, false, false, false, false, false, false, false] rfl rfl (any_of HT_.out (by kernel_rfl)) (fun _ _ _ h => h) (Or.inl ⟨by rfl, ?_⟩) ?_ ?_
                        rotate_left
                        · intro w'
                          go_simp
                          with_reducible rfl
                        rotate_left
                        · simp only [Act.put, List.setIfInBounds_toArray, List.set_cons_zero, List.set_cons_succ, i64_w, i32_w]
                          rfl
                        refine pure_ (i := 1) (N := some 78) (v := ?_) (a' := ?_) #[true, true, false, false, false, false, false, false, false, false, false, false, false, false, false, false, false, false, false, false, false, false, false, false, false, false, false, false, false, false] rfl rfl (any_of HT_.out (by kernel_rfl)) (fun _ _ _ h => h) (Or.inl ⟨by rfl, ?_⟩) ?_ ?_
                        rotate_left
                        · intro w'
                          go_simp
                          with_reducible rfl
                        rotate_left
                        · simp only [Act.put, List.setIfInBounds_toArray, List.set_cons_zero, List.set_cons_succ, i64_w, i32_w]
                          rfl
                        refine pure_ (i := 2) (N := some 79) (v := ?_) (a' := ?_) #[true, true, true, false, false, false, false, false, false, false, false, false, false, false, false, false, false, false, false, false, false, false, false, false, false, false, false, false, false, false] rfl rfl (any_of HT_.out (by kernel_rfl)) (fun _ _ _ h => h) (Or.inl ⟨by rfl, ?_⟩) ?_ ?_
                        rotate_left
                        · intro w'
                          go_simp
                          with_reducible rfl
                        rotate_left
                        · simp only [Act.put, List.setIfInBounds_toArray, List.set_cons_zero, List.set_cons_succ, i64_w, i32_w]
                          rfl
                        refine pure_ (i := 3) (N := some 80) (v := ?_) (a' := ?_) #[true, true, true, true, false, false, false, false, false, false, false, false, false, false, false, false, false, false, false, false, false, false, false, false, false, false, false, false, false, false] rfl rfl (any_of HT_.out (by kernel_rfl)) (fun _ _ _ h => h) (Or.inl ⟨by rfl, ?_⟩) ?_ ?_
                        rotate_left
                        · intro w'
                          go_simp
                          with_reducible rfl
                        rotate_left
                        · simp only [Act.put, List.setIfInBounds_toArray, List.set_cons_zero, List.set_cons_succ, i64_w, i32_w]
                          rfl
                        refine pure_ (i := 4) (N := some 81) (v := ?_) (a' := ?_) #[true, true, true, true, true, false, false, false, false, false, false, false, false, false, false, false, false, false, false, false, false, false, false, false, false, false, false, false, false, false] rfl rfl (any_of HT_.out (by kernel_rfl)) (fun _ _ _ h => h) (Or.inl ⟨by rfl, ?_⟩) ?_ ?_
                        rotate_left
                        · intro w'
                          go_simp
                          with_reducible rfl
                        rotate_left
                        · simp only [Act.put, List.setIfInBounds_toArray, List.set_cons_zero, List.set_cons_succ, i64_w, i32_w]
                          rfl
                        refine pure_ (i := 5) (N := some 82) (v := ?_) (a' := ?_) #[true, true, true, true, true, true, false, false, false, false, false, false, false, false, false, false, false, false, false, false, false, false, false, false, false, false, false, false, false, false] rfl rfl (any_of HT_.out (by kernel_rfl)) (fun _ _ _ h => h) (Or.inl ⟨by rfl, ?_⟩) ?_ ?_
                        rotate_left
                        · intro w'
                          go_simp
                          with_reducible rfl
                        rotate_left
                        · simp only [Act.put, List.setIfInBounds_toArray, List.set_cons_zero, List.set_cons_succ, i64_w, i32_w]
                          rfl
                        refine take_ (i := 6) (N := some 83) (v := ?_) (a' := ?_) #[true, true, true, true, true, true, true, false, false, false, false, false, false, false, false, false, false, false, false, false, false, false, false, false, false, false, false, false, false, false] rfl rfl (take_ofW HT_.out HW_.out (by kernel_rfl)) (fun _ _ _ h => h) (Or.inl ⟨by rfl, ?_⟩) hHeld ?_ ?_
                        rotate_left
                        · intro w' s0
                          go_simp
                          with_reducible rfl
                        rotate_left
                        · simp only [Act.put, List.setIfInBounds_toArray, List.set_cons_zero, List.set_cons_succ, i64_w, i32_w]
                          rfl
                        refine pure_ (i := 7) (N := some 84) (v := ?_) (a' := ?_) #[true, true, true, true, true, true, true, true, false, false, false, false, false, false, false, false, false, false, false, false, false, false, false, false, false, false, false, false, false, false] rfl rfl (any_of HT_.out (by kernel_rfl)) (fun _ _ _ h => h) (Or.inl ⟨by rfl, ?_⟩) ?_ ?_
                        rotate_left
                        · intro w'
                          go_simp
                          with_reducible rfl
                        rotate_left
                        · simp only [Act.put, List.setIfInBounds_toArray, List.set_cons_zero, List.set_cons_succ, i64_w, i32_w]
                          rfl
                        refine pure_ (i := 8) (N := some 85) (v := ?_) (a' := ?_) #[true, true, true, true, true, true, true, true, true, false, false, false, false, false, false, false, false, false, false, false, false, false, false, false, false, false, false, false, false, false] rfl rfl (any_of HT_.out (by kernel_rfl)) (fun _ _ _ h => h) (Or.inl ⟨by rfl, ?_⟩) ?_ ?_
                        rotate_left
                        · intro w'
                          go_simp
                          with_reducible rfl
                        rotate_left
                        · simp only [Act.put, List.setIfInBounds_toArray, List.set_cons_zero, List.set_cons_succ, i64_w, i32_w]
                          rfl
                        refine pure_ (i := 9) (N := some 86) (v := ?_) (a' := ?_) #[true, true, true, true, true, true, true, true, true, true, false, false, false, false, false, false, false, false, false, false, false, false, false, false, false, false, false, false, false, false] rfl rfl (any_of HT_.out (by kernel_rfl)) (fun _ _ _ h => h) (Or.inl ⟨by rfl, ?_⟩) ?_ ?_
                        rotate_left
                        · intro w'
                          go_simp
                          with_reducible rfl
                        rotate_left
                        · simp only [Act.put, List.setIfInBounds_toArray, List.set_cons_zero, List.set_cons_succ, i64_w, i32_w]
                          rfl
                        refine pure_ (i := 10) (N := some 87) (v := undef) (a' := ?_) #[true, true, true, true, true, true, true, true, true, true, true, false, false, false, false, false, false, false, false, false, false, false, false, false, false, false, false, false, false, false] rfl rfl (any_of HT_.out (by kernel_rfl)) (fun _ _ _ h => h) (Or.inr ⟨by rfl, rfl⟩) ?_ ?_
                        rotate_left
                        · simp only [Act.put, List.setIfInBounds_toArray, List.set_cons_zero, List.set_cons_succ, i64_w, i32_w]
                          rfl
                        refine pure_ (i := 11) (N := some 88) (v := undef) (a' := ?_) #[true, true, true, true, true, true, true, true, true, true, true, true, false, false, false, false, false, false, false, false, false, false, false, false, false, false, false, false, false, false] rfl rfl (any_of HT_.out (by kernel_rfl)) (fun _ _ _ h => h) (Or.inr ⟨by rfl, rfl⟩) ?_ ?_
                        rotate_left
                        · simp only [Act.put, List.setIfInBounds_toArray, List.set_cons_zero, List.set_cons_succ, i64_w, i32_w]
                          rfl
                        refine pure_ (i := 12) (N := some 89) (v := undef) (a' := ?_) #[true, true, true, true, true, true, true, true, true, true, true, true, true, false, false, false, false, false, false, false, false, false, false, false, false, false, false, false, false, false] rfl rfl (any_of HT_.out (by kernel_rfl)) (fun _ _ _ h => h) (Or.inr ⟨by rfl, rfl⟩) ?_ ?_
                        rotate_left
                        · simp only [Act.put, List.setIfInBounds_toArray, List.set_cons_zero, List.set_cons_succ, i64_w, i32_w]
                          rfl
                        refine pure_ (i := 13) (N := some 90) (v := undef) (a' := ?_) #[true, true, true, true, true, true, true, true, true, true, true, true, true, true, false, false, false, false, false, false, false, false, false, false, false, false, false, false, false, false] rfl rfl (any_of HT_.out (by kernel_rfl)) (fun _ _ _ h => h) (Or.inr ⟨by rfl, rfl⟩) ?_ ?_
                        rotate_left
                        · simp only [Act.put, List.setIfInBounds_toArray, List.set_cons_zero, List.set_cons_succ, i64_w, i32_w]
                          rfl
                        refine pure_ (i := 14) (N := some 91) (v := ?_) (a' := ?_) #[true, true, true, true, true, true, true, true, true, true, true, true, true, true, true, false, false, false, false, false, false, false, false, false, false, false, false, false, false, false] rfl rfl (any_of HT_.out (by kernel_rfl)) (fun _ _ _ h => h) (Or.inl ⟨by rfl, ?_⟩) ?_ ?_
                        rotate_left
                        · intro w'
                          go_simp
                          with_reducible rfl
                        rotate_left
                        · simp only [Act.put, List.setIfInBounds_toArray, List.set_cons_zero, List.set_cons_succ, i64_w, i32_w]
                          rfl
                        refine pure_ (i := 15) (N := some 92) (v := ?_) (a' := ?_) #[true, true, true, true, true, true, true, true, true, true, true, true, true, true, true, true, false, false, false, false, false, false, false, false, false, false, false, false, false, false] rfl rfl (any_of HT_.out (by kernel_rfl)) (fun _ _ _ h => h) (Or.inl ⟨by rfl, ?_⟩) ?_ ?_
                        rotate_left
                        · intro w'
                          go_simp
                          with_reducible rfl
                        rotate_left
                        · simp only [Act.put, List.setIfInBounds_toArray, List.set_cons_zero, List.set_cons_succ, i64_w, i32_w]
                          rfl
                        refine pure_ (i := 16) (N := some 93) (v := undef) (a' := ?_) #[true, true, true, true, true, true, true, true, true, true, true, true, true, true, true, true, true, false, false, false, false, false, false, false, false, false, false, false, false, false] rfl rfl (any_of HT_.out (by kernel_rfl)) (fun _ _ _ h => h) (Or.inr ⟨by rfl, rfl⟩) ?_ ?_
                        rotate_left
                        · simp only [Act.put, List.setIfInBounds_toArray, List.set_cons_zero, List.set_cons_succ, i64_w, i32_w]
                          rfl
                        refine pure_ (i := 17) (N := some 94) (v := undef) (a' := ?_) #[true, true, true, true, true, true, true, true, true, true, true, true, true, true, true, true, true, true, false, false, false, false, false, false, false, false, false, false, false, false] rfl rfl (any_of HT_.out (by kernel_rfl)) (fun _ _ _ h => h) (Or.inr ⟨by rfl, rfl⟩) ?_ ?_
                        rotate_left
                        · simp only [Act.put, List.setIfInBounds_toArray, List.set_cons_zero, List.set_cons_succ, i64_w, i32_w]
                          rfl
                        refine pure_ (i := 18) (N := some 95) (v := undef) (a' := ?_) #[true, true, true, true, true, true, true, true, true, true, true, true, true, true, true, true, true, true, true, false, false, false, false, false, false, false, false, false, false, false] rfl rfl (any_of HT_.out (by kernel_rfl)) (fun _ _ _ h => h) (Or.inr ⟨by rfl, rfl⟩) ?_ ?_
                        rotate_left
                        · simp only [Act.put, List.setIfInBounds_toArray, List.set_cons_zero, List.set_cons_succ, i64_w, i32_w]
                          rfl
                        refine pure_ (i := 19) (N := some 96) (v := undef) (a' := ?_) #[true, true, true, true, true, true, true, true, true, true, true, true, true, true, true, true, true, true, true, true, false, false, false, false, false, false, false, false, false, false] rfl rfl (any_of HT_.out (by kernel_rfl)) (fun _ _ _ h => h) (Or.inr ⟨by rfl, rfl⟩) ?_ ?_
                        rotate_left
                        · simp only [Act.put, List.setIfInBounds_toArray, List.set_cons_zero, List.set_cons_succ, i64_w, i32_w]
                          rfl
                        refine pure_ (i := 20) (N := some 97) (v := undef) (a' := ?_) #[true, true, true, true, true, true, true, true, true, true, true, true, true, true, true, true, true, true, true, true, true, false, false, false, false, false, false, false, false, false] rfl rfl (any_of HT_.out (by kernel_rfl)) (fun _ _ _ h => h) (Or.inr ⟨by rfl, rfl⟩) ?_ ?_
                        rotate_left
                        · simp only [Act.put, List.setIfInBounds_toArray, List.set_cons_zero, List.set_cons_succ, i64_w, i32_w]
                          rfl
                        refine pure_ (i := 21) (N := some 98) (v := undef) (a' := ?_) #[true, true, true, true, true, true, true, true, true, true, true, true, true, true, true, true, true, true, true, true, true, true, false, false, false, false, false, false, false, false] rfl rfl (any_of HT_.out (by kernel_rfl)) (fun _ _ _ h => h) (Or.inr ⟨by rfl, rfl⟩) ?_ ?_
                        rotate_left
                        · simp only [Act.put, List.setIfInBounds_toArray, List.set_cons_zero, List.set_cons_succ, i64_w, i32_w]
                          rfl
                        refine pure_ (i := 22) (N := some 99) (v := undef) (a' := ?_) #[true, true, true, true, true, true, true, true, true, true, true, true, true, true, true, true, true, true, true, true, true, true, true, false, false, false, false, false, false, false] rfl rfl (any_of HT_.out (by kernel_rfl)) (fun _ _ _ h => h) (Or.inr ⟨by rfl, rfl⟩) ?_ ?_
                        rotate_left
                        · simp only [Act.put, List.setIfInBounds_toArray, List.set_cons_zero, List.set_cons_succ, i64_w, i32_w]
                          rfl
                        refine pure_ (i := 23) (N := some 100) (v := undef) (a' := ?_) #[true, true, true, true, true, true, true, true, true, true, true, true, true, true, true, true, true, true, true, true, true, true, true, true, false, false, false, false, false, false] rfl rfl (any_of HT_.out (by kernel_rfl)) (fun _ _ _ h => h) (Or.inr ⟨by rfl, rfl⟩) ?_ ?_
                        rotate_left
                        · simp only [Act.put, List.setIfInBounds_toArray, List.set_cons_zero, List.set_cons_succ, i64_w, i32_w]
                          rfl
                        refine pure_ (i := 24) (N := some 101) (v := undef) (a' := ?_) #[true, true, true, true, true, true, true, true, true, true, true, true, true, true, true, true, true, true, true, true, true, true, true, true, true, false, false, false, false, false] rfl rfl (any_of HT_.out (by kernel_rfl)) (fun _ _ _ h => h) (Or.inr ⟨by rfl, rfl⟩) ?_ ?_
                        rotate_left
                        · simp only [Act.put, List.setIfInBounds_toArray, List.set_cons_zero, List.set_cons_succ, i64_w, i32_w]
                          rfl
                        refine pure_ (i := 25) (N := some 102) (v := undef) (a' := ?_) #[true, true, true, true, true, true, true, true, true, true, true, true, true, true, true, true, true, true, true, true, true, true, true, true, true, true, false, false, false, false] rfl rfl (any_of HT_.out (by kernel_rfl)) (fun _ _ _ h => h) (Or.inr ⟨by rfl, rfl⟩) ?_ ?_
                        rotate_left
                        · simp only [Act.put, List.setIfInBounds_toArray, List.set_cons_zero, List.set_cons_succ, i64_w, i32_w]
                          rfl
                        refine pure_ (i := 26) (N := some 103) (v := undef) (a' := ?_) #[true, true, true, true, true, true, true, true, true, true, true, true, true, true, true, true, true, true, true, true, true, true, true, true, true, true, true, false, false, false] rfl rfl (any_of HT_.out (by kernel_rfl)) (fun _ _ _ h => h) (Or.inr ⟨by rfl, rfl⟩) ?_ ?_
                        rotate_left
                        · simp only [Act.put, List.setIfInBounds_toArray, List.set_cons_zero, List.set_cons_succ, i64_w, i32_w]
                          rfl
                        refine pure_ (i := 27) (N := some 104) (v := undef) (a' := ?_) #[true, true, true, true, true, true, true, true, true, true, true, true, true, true, true, true, true, true, true, true, true, true, true, true, true, true, true, true, false, false] rfl rfl (any_of HT_.out (by kernel_rfl)) (fun _ _ _ h => h) (Or.inr ⟨by rfl, rfl⟩) ?_ ?_
                        rotate_left
                        · simp only [Act.put, List.setIfInBounds_toArray, List.set_cons_zero, List.set_cons_succ, i64_w, i32_w]
                          rfl
                        refine pure_ (i := 28) (N := some 105) (v := undef) (a' := ?_) #[true, true, true, true, true, true, true, true, true, true, true, true, true, true, true, true, true, true, true, true, true, true, true, true, true, true, true, true, true, false] rfl rfl (any_of HT_.out (by kernel_rfl)) (fun _ _ _ h => h) (Or.inr ⟨by rfl, rfl⟩) ?_ ?_
                        rotate_left
                        · simp only [Act.put, List.setIfInBounds_toArray, List.set_cons_zero, List.set_cons_succ, i64_w, i32_w]
                          rfl
                        refine pure_ (i := 29) (N := some 106) (v := ?_) (a' := ?_) #[true, true, true, true, true, true, true, true, true, true, true, true, true, true, true, true, true, true, true, true, true, true, true, true, true, true, true, true, true, true] rfl rfl (any_of HT_.out (by kernel_rfl)) (fun _ _ _ h => h) (Or.inl ⟨by rfl, ?_⟩) ?_ ?_
                        rotate_left
                        · intro w'
                          go_simp
                          with_reducible rfl
                        rotate_left
                        · simp only [Act.put, List.setIfInBounds_toArray, List.set_cons_zero, List.set_cons_succ, i64_w, i32_w]
                          rfl
                        refine done_ (done_of HT_.out (by kernel_rfl)) ?_
                        try go_wp2
                        go_ret2
                        exact ⟨_, by first | rfl | (simp [errW_none, errW_some] <;> rfl) | (simp [*, errW_none, errW_some] <;> rfl), by first | exact Kd.R_nil _ _ _ _ _ | exact Kd.N_nil _ _ _ _ _ | exact Kd.V_nil _ _ _ _ _ | exact Kd.Q_nil _ _ _ _ _ | exact Kd.S_nil _ _ _ _ _, by repeat (first | (with_reducible first | exact HB.out | apply below_alloc | apply pw_below_drewN | apply below_drew1) | exact HB.out)⟩
                      · rw [if_neg c49] at H
                        have c49b0 : decide ((rd x4_1 0) < 103) = false := decide_eq_false c49
                        clear c49
                        by_cases c52 : (rd x4_1 0) > 105
                        · rw [if_pos c52] at H
                          have c52b0 : decide (105 < (rd x4_1 0)) = true := decide_eq_true c52
                          clear c52
                          simp only [Option.some.injEq, Prod.mk.injEq] at H
                          obtain ⟨rfl, rfl⟩ := H
                          try go_wp2
                          have n0_ := Aside0.mk (Kd.R_drew HO_4.out)
                          have n1_ := Aside0.mk (below_drew1 HB.out)
                          clear HO_4
                          clear HB
                          have HO_4 := n0_
                          have HB := n1_
                          clear n0_ n1_
                          obtain ⟨Ao54, co54, eo54⟩ := Kd.R_slice HO_4.out
                          (first | subst eo54 | (injection eo54 with f1_ f2_ f3_; have f4_ := f1_.symm; have f5_ := f3_.symm; clear f1_ f2_ f3_; subst f4_; subst f5_))
                          have p333 : 0 ≤ (0 : Int) := (by omega)
                          have q333 : 0 < (x4_1.length : Int) := of_decide_eq_true (by first | (with_reducible assumption) | assumption)
                          obtain ⟨ad333, e333, hx333_0⟩ := Kd.at_int (Kd.R_reads' HO_4.out).2.2 0 p333 q333
                          cases e333
                          have qi333 : (0 < x4_1.length) = True := eq_true (by omega)
                          (try rw [show ((0 : Int)).toNat = 0 from rfl] at hx333_0)
                          (try rw [Addr.add_zero'] at hx333_0)
                          replace p333 := eq_true p333
                          replace q333 := eq_true q333
                          have p334 : 0 ≤ (0 : Int) := (by omega)
                          have q334 : 0 < (x4_1.length : Int) := of_decide_eq_true (by first | (with_reducible assumption) | assumption)
                          obtain ⟨ad334, e334, hx334_0⟩ := Kd.at_int (Kd.R_reads' HO_4.out).2.2 0 p334 q334
                          obtain rfl : ad333 = ad334 := (by injection e334)
                          have qi334 : (0 < x4_1.length) = True := eq_true (by omega)
                          (try rw [show ((0 : Int)).toNat = 0 from rfl] at hx334_0)
                          (try rw [Addr.add_zero'] at hx334_0)
                          replace p334 := eq_true p334
                          replace q334 := eq_true q334
                          refine start_ (n := 30) (S := fun w' => w'.cell? ad333 = some (.int .i64 (rd x4_1 0)) ∧ w'.cell? ad333 = some (.int .i64 (rd x4_1 0))) (ds := []) #[false, false, false, false, false, false, false, false, false, false, false, false, false, false, false, false, false, false, false, false, false, false, false, false, false, false, false, false, false, false] (by kernel_rfl) rfl rfl ⟨hx333_0, hx334_0⟩ (fun hHeld => ?_); refine with_tabW spec_OD128Values.tab20 spec_OD128Values.bits20 (fun HT_ HW_ => ?_)
                          generalize wc.drew = w53 at HO_4 HB hx333_0 hx334_0 hHeld ⊢
                          refine pure_ (i := 0) (N := some 77) (v := ?_) (a' := ?_) #[true, false, false, false, false, false, false, false, false, false, false, false, false, false, false, false, false, false, false, false, false, false, false, false, false, false, false, false, false, false] rfl rfl (any_of HT_.out (by kernel_rfl)) (fun _ _ _ h => h) (Or.inl ⟨by rfl, ?_⟩) ?_ ?_
                          rotate_left
                          · intro w'
                            go_simp
                            with_reducible rfl
                          rotate_left
                          · simp only [Act.put, List.setIfInBounds_toArray, List.set_cons_zero, List.set_cons_succ, i64_w, i32_w]
                            rfl
                          refine pure_ (i := 1) (N := some 78) (v := ?_) (a' := ?_) #[true, true, false, false, false, false, false, false, false, false, false, false, false, false, false, false, false, false, false, false, false, false, false, false, false, false, false, false, false, false] rfl rfl (any_of HT_.out (by kernel_rfl)) (fun _ _ _ h => h) (Or.inl ⟨by rfl, ?_⟩) ?_ ?_
                          rotate_left
                          · intro w'
                            go_simp
                            with_reducible rfl
                          rotate_left
                          · simp only [Act.put, List.setIfInBounds_toArray, List.set_cons_zero, List.set_cons_succ, i64_w, i32_w]
                            rfl
                          refine pure_ (i := 2) (N := some 79) (v := ?_) (a' := ?_) #[true, true, true, false, false, false, false, false, false, false, false, false, false, false, false, false, false, false, false, false, false, false, false, false, false, false, false, false, false, false] rfl rfl (any_of HT_.out (by kernel_rfl)) (fun _ _ _ h => h) (Or.inl ⟨by rfl, ?_⟩) ?_ ?_
                          rotate_left
                          · intro w'
                            go_simp
                            with_reducible rfl
                          rotate_left
                          · simp only [Act.put, List.setIfInBounds_toArray, List.set_cons_zero, List.set_cons_succ, i64_w, i32_w]
                            rfl
                          refine pure_ (i := 3) (N := some 80) (v := ?_) (a' := ?_) #[true, true, true, true, false, false, false, false, false, false, false, false, false, false, false, false, false, false, false, false, false, false, false, false, false, false, false, false, false, false] rfl rfl (any_of HT_.out (by kernel_rfl)) (fun _ _ _ h => h) (Or.inl ⟨by rfl, ?_⟩) ?_ ?_
                          rotate_left
                          · intro w'
                            go_simp
                            with_reducible rfl
                          rotate_left
                          · simp only [Act.put, List.setIfInBounds_toArray, List.set_cons_zero, List.set_cons_succ, i64_w, i32_w]
                            rfl
                          refine pure_ (i := 4) (N := some 81) (v := ?_) (a' := ?_) #[true, true, true, true, true, false, false, false, false, false, false, false, false, false, false, false, false, false, false, false, false, false, false, false, false, false, false, false, false, false] rfl rfl (any_of HT_.out (by kernel_rfl)) (fun _ _ _ h => h) (Or.inl ⟨by rfl, ?_⟩) ?_ ?_
                          rotate_left
                          · intro w'
                            go_simp
                            with_reducible rfl
                          rotate_left
                          · simp only [Act.put, List.setIfInBounds_toArray, List.set_cons_zero, List.set_cons_succ, i64_w, i32_w]
                            rfl
                          refine pure_ (i := 5) (N := some 82) (v := ?_) (a' := ?_) #[true, true, true, true, true, true, false, false, false, false, false, false, false, false, false, false, false, false, false, false, false, false, false, false, false, false, false, false, false, false] rfl rfl (any_of HT_.out (by kernel_rfl)) (fun _ _ _ h => h) (Or.inl ⟨by rfl, ?_⟩) ?_ ?_
                          rotate_left
                          · intro w'
                            go_simp
                            with_reducible rfl
                          rotate_left
                          · simp only [Act.put, List.setIfInBounds_toArray, List.set_cons_zero, List.set_cons_succ, i64_w, i32_w]
                            rfl
                          refine take_ (i := 6) (N := some 83) (v := ?_) (a' := ?_) #[true, true, true, true, true, true, true, false, false, false, false, false, false, false, false, false, false, false, false, false, false, false, false, false, false, false, false, false, false, false] rfl rfl (take_ofW HT_.out HW_.out (by kernel_rfl)) (fun _ _ _ h => h) (Or.inl ⟨by rfl, ?_⟩) hHeld ?_ ?_
                          rotate_left
                          · rintro w' ⟨s0, s1⟩
                            go_simp
                            with_reducible rfl
                          rotate_left
                          · simp only [Act.put, List.setIfInBounds_toArray, List.set_cons_zero, List.set_cons_succ, i64_w, i32_w]
                            rfl
                          refine pure_ (i := 7) (N := some 84) (v := ?_) (a' := ?_) #[true, true, true, true, true, true, true, true, false, false, false, false, false, false, false, false, false, false, false, false, false, false, false, false, false, false, false, false, false, false] rfl rfl (any_of HT_.out (by kernel_rfl)) (fun _ _ _ h => h) (Or.inl ⟨by rfl, ?_⟩) ?_ ?_
                          rotate_left
                          · intro w'
                            go_simp
                            with_reducible rfl
                          rotate_left
                          · simp only [Act.put, List.setIfInBounds_toArray, List.set_cons_zero, List.set_cons_succ, i64_w, i32_w]
                            rfl
                          refine pure_ (i := 8) (N := some 85) (v := ?_) (a' := ?_) #[true, true, true, true, true, true, true, true, true, false, false, false, false, false, false, false, false, false, false, false, false, false, false, false, false, false, false, false, false, false] rfl rfl (any_of HT_.out (by kernel_rfl)) (fun _ _ _ h => h) (Or.inl ⟨by rfl, ?_⟩) ?_ ?_
                          rotate_left
                          · intro w'
                            go_simp
                            with_reducible rfl
                          rotate_left
                          · simp only [Act.put, List.setIfInBounds_toArray, List.set_cons_zero, List.set_cons_succ, i64_w, i32_w]
                            rfl
                          refine pure_ (i := 9) (N := some 86) (v := ?_) (a' := ?_) #[true, true, true, true, true, true, true, true, true, true, false, false, false, false, false, false, false, false, false, false, false, false, false, false, false, false, false, false, false, false] rfl rfl (any_of HT_.out (by kernel_rfl)) (fun _ _ _ h => h) (Or.inl ⟨by rfl, ?_⟩) ?_ ?_
                          rotate_left
                          · intro w'
                            go_simp
                            with_reducible rfl
                          rotate_left
                          · simp only [Act.put, List.setIfInBounds_toArray, List.set_cons_zero, List.set_cons_succ, i64_w, i32_w]
                            rfl
                          refine pure_ (i := 10) (N := some 87) (v := ?_) (a' := ?_) #[true, true, true, true, true, true, true, true, true, true, true, false, false, false, false, false, false, false, false, false, false, false, false, false, false, false, false, false, false, false] rfl rfl (any_of HT_.out (by kernel_rfl)) (fun _ _ _ h => h) (Or.inl ⟨by rfl, ?_⟩) ?_ ?_
                          rotate_left
                          · intro w'
                            go_simp
                            with_reducible rfl
                          rotate_left
                          · simp only [Act.put, List.setIfInBounds_toArray, List.set_cons_zero, List.set_cons_succ, i64_w, i32_w]
                            rfl
                          refine pure_ (i := 11) (N := some 88) (v := ?_) (a' := ?_) #[true, true, true, true, true, true, true, true, true, true, true, true, false, false, false, false, false, false, false, false, false, false, false, false, false, false, false, false, false, false] rfl rfl (any_of HT_.out (by kernel_rfl)) (fun _ _ _ h => h) (Or.inl ⟨by rfl, ?_⟩) ?_ ?_
                          rotate_left
                          · intro w'
                            go_simp
                            with_reducible rfl
                          rotate_left
                          · simp only [Act.put, List.setIfInBounds_toArray, List.set_cons_zero, List.set_cons_succ, i64_w, i32_w]
                            rfl
                          refine take_ (i := 12) (N := some 89) (v := ?_) (a' := ?_) #[true, true, true, true, true, true, true, true, true, true, true, true, true, false, false, false, false, false, false, false, false, false, false, false, false, false, false, false, false, false] rfl rfl (take_ofW HT_.out HW_.out (by kernel_rfl)) (fun _ _ _ h => h) (Or.inl ⟨by rfl, ?_⟩) hHeld ?_ ?_
                          rotate_left
                          · rintro w' ⟨s0, s1⟩
                            go_simp
                            with_reducible rfl
                          rotate_left
                          · simp only [Act.put, List.setIfInBounds_toArray, List.set_cons_zero, List.set_cons_succ, i64_w, i32_w]
                            rfl
                          refine pure_ (i := 13) (N := some 90) (v := ?_) (a' := ?_) #[true, true, true, true, true, true, true, true, true, true, true, true, true, true, false, false, false, false, false, false, false, false, false, false, false, false, false, false, false, false] rfl rfl (any_of HT_.out (by kernel_rfl)) (fun _ _ _ h => h) (Or.inl ⟨by rfl, ?_⟩) ?_ ?_
                          rotate_left
                          · intro w'
                            go_simp
                            with_reducible rfl
                          rotate_left
                          · simp only [Act.put, List.setIfInBounds_toArray, List.set_cons_zero, List.set_cons_succ, i64_w, i32_w]
                            rfl
                          refine pure_ (i := 14) (N := some 91) (v := ?_) (a' := ?_) #[true, true, true, true, true, true, true, true, true, true, true, true, true, true, true, false, false, false, false, false, false, false, false, false, false, false, false, false, false, false] rfl rfl (any_of HT_.out (by kernel_rfl)) (fun _ _ _ h => h) (Or.inl ⟨by rfl, ?_⟩) ?_ ?_
                          rotate_left
                          · intro w'
                            go_simp
                            with_reducible rfl
                          rotate_left
                          · simp only [Act.put, List.setIfInBounds_toArray, List.set_cons_zero, List.set_cons_succ, i64_w, i32_w]
                            rfl
                          refine pure_ (i := 15) (N := some 92) (v := ?_) (a' := ?_) #[true, true, true, true, true, true, true, true, true, true, true, true, true, true, true, true, false, false, false, false, false, false, false, false, false, false, false, false, false, false] rfl rfl (any_of HT_.out (by kernel_rfl)) (fun _ _ _ h => h) (Or.inl ⟨by rfl, ?_⟩) ?_ ?_
                          rotate_left
                          · intro w'
                            go_simp
                            with_reducible rfl
                          rotate_left
                          · simp only [Act.put, List.setIfInBounds_toArray, List.set_cons_zero, List.set_cons_succ, i64_w, i32_w]
                            rfl
                          refine pure_ (i := 16) (N := some 93) (v := undef) (a' := ?_) #[true, true, true, true, true, true, true, true, true, true, true, true, true, true, true, true, true, false, false, false, false, false, false, false, false, false, false, false, false, false] rfl rfl (any_of HT_.out (by kernel_rfl)) (fun _ _ _ h => h) (Or.inr ⟨by rfl, rfl⟩) ?_ ?_
                          rotate_left
                          · simp only [Act.put, List.setIfInBounds_toArray, List.set_cons_zero, List.set_cons_succ, i64_w, i32_w]
                            rfl
                          refine pure_ (i := 17) (N := some 94) (v := undef) (a' := ?_) #[true, true, true, true, true, true, true, true, true, true, true, true, true, true, true, true, true, true, false, false, false, false, false, false, false, false, false, false, false, false] rfl rfl (any_of HT_.out (by kernel_rfl)) (fun _ _ _ h => h) (Or.inr ⟨by rfl, rfl⟩) ?_ ?_
                          rotate_left
                          · simp only [Act.put, List.setIfInBounds_toArray, List.set_cons_zero, List.set_cons_succ, i64_w, i32_w]
                            rfl
                          refine pure_ (i := 18) (N := some 95) (v := undef) (a' := ?_) #[true, true, true, true, true, true, true, true, true, true, true, true, true, true, true, true, true, true, true, false, false, false, false, false, false, false, false, false, false, false] rfl rfl (any_of HT_.out (by kernel_rfl)) (fun _ _ _ h => h) (Or.inr ⟨by rfl, rfl⟩) ?_ ?_
                          rotate_left
                          · simp only [Act.put, List.setIfInBounds_toArray, List.set_cons_zero, List.set_cons_succ, i64_w, i32_w]
                            rfl
                          refine pure_ (i := 19) (N := some 96) (v := undef) (a' := ?_) #[true, true, true, true, true, true, true, true, true, true, true, true, true, true, true, true, true, true, true, true, false, false, false, false, false, false, false, false, false, false] rfl rfl (any_of HT_.out (by kernel_rfl)) (fun _ _ _ h => h) (Or.inr ⟨by rfl, rfl⟩) ?_ ?_
                          rotate_left
                          · simp only [Act.put, List.setIfInBounds_toArray, List.set_cons_zero, List.set_cons_succ, i64_w, i32_w]
                            rfl
                          refine pure_ (i := 20) (N := some 97) (v := undef) (a' := ?_) #[true, true, true, true, true, true, true, true, true, true, true, true, true, true, true, true, true, true, true, true, true, false, false, false, false, false, false, false, false, false] rfl rfl (any_of HT_.out (by kernel_rfl)) (fun _ _ _ h => h) (Or.inr ⟨by rfl, rfl⟩) ?_ ?_
                          rotate_left
                          · simp only [Act.put, List.setIfInBounds_toArray, List.set_cons_zero, List.set_cons_succ, i64_w, i32_w]
                            rfl
                          refine pure_ (i := 21) (N := some 98) (v := undef) (a' := ?_) #[true, true, true, true, true, true, true, true, true, true, true, true, true, true, true, true, true, true, true, true, true, true, false, false, false, false, false, false, false, false] rfl rfl (any_of HT_.out (by kernel_rfl)) (fun _ _ _ h => h) (Or.inr ⟨by rfl, rfl⟩) ?_ ?_
                          rotate_left
                          · simp only [Act.put, List.setIfInBounds_toArray, List.set_cons_zero, List.set_cons_succ, i64_w, i32_w]
                            rfl
                          refine pure_ (i := 22) (N := some 99) (v := undef) (a' := ?_) #[true, true, true, true, true, true, true, true, true, true, true, true, true, true, true, true, true, true, true, true, true, true, true, false, false, false, false, false, false, false] rfl rfl (any_of HT_.out (by kernel_rfl)) (fun _ _ _ h => h) (Or.inr ⟨by rfl, rfl⟩) ?_ ?_
                          rotate_left
                          · simp only [Act.put, List.setIfInBounds_toArray, List.set_cons_zero, List.set_cons_succ, i64_w, i32_w]
                            rfl
                          refine pure_ (i := 23) (N := some 100) (v := undef) (a' := ?_) #[true, true, true, true, true, true, true, true, true, true, true, true, true, true, true, true, true, true, true, true, true, true, true, true, false, false, false, false, false, false] rfl rfl (any_of HT_.out (by kernel_rfl)) (fun _ _ _ h => h) (Or.inr ⟨by rfl, rfl⟩) ?_ ?_
                          rotate_left
                          · simp only [Act.put, List.setIfInBounds_toArray, List.set_cons_zero, List.set_cons_succ, i64_w, i32_w]
                            rfl
                          refine pure_ (i := 24) (N := some 101) (v := undef) (a' := ?_) #[true, true, true, true, true, true, true, true, true, true, true, true, true, true, true, true, true, true, true, true, true, true, true, true, true, false, false, false, false, false] rfl rfl (any_of HT_.out (by kernel_rfl)) (fun _ _ _ h => h) (Or.inr ⟨by rfl, rfl⟩) ?_ ?_
                          rotate_left
                          · simp only [Act.put, List.setIfInBounds_toArray, List.set_cons_zero, List.set_cons_succ, i64_w, i32_w]
                            rfl
                          refine pure_ (i := 25) (N := some 102) (v := undef) (a' := ?_) #[true, true, true, true, true, true, true, true, true, true, true, true, true, true, true, true, true, true, true, true, true, true, true, true, true, true, false, false, false, false] rfl rfl (any_of HT_.out (by kernel_rfl)) (fun _ _ _ h => h) (Or.inr ⟨by rfl, rfl⟩) ?_ ?_
                          rotate_left
                          · simp only [Act.put, List.setIfInBounds_toArray, List.set_cons_zero, List.set_cons_succ, i64_w, i32_w]
                            rfl
                          refine pure_ (i := 26) (N := some 103) (v := undef) (a' := ?_) #[true, true, true, true, true, true, true, true, true, true, true, true, true, true, true, true, true, true, true, true, true, true, true, true, true, true, true, false, false, false] rfl rfl (any_of HT_.out (by kernel_rfl)) (fun _ _ _ h => h) (Or.inr ⟨by rfl, rfl⟩) ?_ ?_
                          rotate_left
                          · simp only [Act.put, List.setIfInBounds_toArray, List.set_cons_zero, List.set_cons_succ, i64_w, i32_w]
                            rfl
                          refine pure_ (i := 27) (N := some 104) (v := undef) (a' := ?_) #[true, true, true, true, true, true, true, true, true, true, true, true, true, true, true, true, true, true, true, true, true, true, true, true, true, true, true, true, false, false] rfl rfl (any_of HT_.out (by kernel_rfl)) (fun _ _ _ h => h) (Or.inr ⟨by rfl, rfl⟩) ?_ ?_
                          rotate_left
                          · simp only [Act.put, List.setIfInBounds_toArray, List.set_cons_zero, List.set_cons_succ, i64_w, i32_w]
                            rfl
                          refine pure_ (i := 28) (N := some 105) (v := undef) (a' := ?_) #[true, true, true, true, true, true, true, true, true, true, true, true, true, true, true, true, true, true, true, true, true, true, true, true, true, true, true, true, true, false] rfl rfl (any_of HT_.out (by kernel_rfl)) (fun _ _ _ h => h) (Or.inr ⟨by rfl, rfl⟩) ?_ ?_
                          rotate_left
                          · simp only [Act.put, List.setIfInBounds_toArray, List.set_cons_zero, List.set_cons_succ, i64_w, i32_w]
                            rfl
                          refine pure_ (i := 29) (N := some 106) (v := ?_) (a' := ?_) #[true, true, true, true, true, true, true, true, true, true, true, true, true, true, true, true, true, true, true, true, true, true, true, true, true, true, true, true, true, true] rfl rfl (any_of HT_.out (by kernel_rfl)) (fun _ _ _ h => h) (Or.inl ⟨by rfl, ?_⟩) ?_ ?_
                          rotate_left
                          · intro w'
                            go_simp
                            with_reducible rfl
                          rotate_left
                          · simp only [Act.put, List.setIfInBounds_toArray, List.set_cons_zero, List.set_cons_succ, i64_w, i32_w]
                            rfl
                          refine done_ (done_of HT_.out (by kernel_rfl)) ?_
                          try go_wp2
                          go_ret2
                          exact ⟨_, by first | rfl | (simp [errW_none, errW_some] <;> rfl) | (simp [*, errW_none, errW_some] <;> rfl), by first | exact Kd.R_nil _ _ _ _ _ | exact Kd.N_nil _ _ _ _ _ | exact Kd.V_nil _ _ _ _ _ | exact Kd.Q_nil _ _ _ _ _ | exact Kd.S_nil _ _ _ _ _, by repeat (first | (with_reducible first | exact HB.out | apply below_alloc | apply pw_below_drewN | apply below_drew1) | exact HB.out)⟩
                        · rw [if_neg c52] at H
                          have c52b0 : decide (105 < (rd x4_1 0)) = false := decide_eq_false c52
                          clear c52
                          obtain ⟨ji55, hji55⟩ : ∃ j_ : Int, (wrap64 ((x4_1.length : Int) - 1)) = j_ := ⟨_, rfl⟩
                          replace H : (if 0 ≤ (ji55) then (if (ji55) ≤ (x4_1.length : Int) then ((spec_OD128Check.f kj39 (x4_1.take ((ji55) : Int).toNat)).bind fun t339 => (if (ji55) < (x4_1.length : Int) then (if t339 = (rd x4_1 (ji55)) then (some ((x4_1.take ((ji55) : Int).toNat), true)) else (some (([] : List Int), false))) else (none))) else (none)) else (none)) = some (r1, r2) := by first | (rw [hji55] at H; exact H) | (simp only [hji55] at H ⊢; exact H)
                          have hji55w : (IntKind.i64.wrap ((x4_1.length : Int) - 1)) = ji55 := (i64_w _).trans hji55
                          by_cases c56 : 0 ≤ (ji55)
                          · rw [if_pos c56] at H
                            have c56b0 := eq_true c56
                            have c56b1 : decide (0 ≤ (ji55)) = true := decide_eq_true c56
                            clear c56
                            by_cases c57 : (ji55) ≤ (x4_1.length : Int)
                            · rw [if_pos c57] at H
                              have c57b0 := eq_true c57
                              have c57b1 : decide ((ji55) ≤ (x4_1.length : Int)) = true := decide_eq_true c57
                              clear c57
                              obtain ⟨y335, hy335⟩ : ∃ y_ : List Int, y_ = (x4_1.take ((ji55) : Int).toNat) := ⟨_, rfl⟩
                              replace H : ((spec_OD128Check.f kj39 y335).bind fun t339 => (if (ji55) < (x4_1.length : Int) then (if t339 = (rd x4_1 (ji55)) then (some ((x4_1.take ((ji55) : Int).toNat), true)) else (some (([] : List Int), false))) else (none))) = some (r1, r2) := by first | (rw [hy335]; with_reducible exact H) | (have H2_ := (Option.bind_some _ _).symm.trans H; rw [hy335]; with_reducible exact H2_) | (have H2_ := (Option.bind_some _ _).symm.trans H; with_reducible exact H2_) | with_reducible exact H | (rw [hy335]; exact H) | exact H
                              have Ny335 := Aside0.mk hy335
                              clear hy335
                              replace H := Option.bind_eq_some_iff.mp H
                              obtain ⟨t339, A580, H⟩ := H
                              replace H : (if (ji55) < (x4_1.length : Int) then (if t339 = (rd x4_1 (ji55)) then (some ((x4_1.take ((ji55) : Int).toNat), true)) else (some (([] : List Int), false))) else (none)) = some (r1, r2) := H
                              have A58 := Aside0.mk A580
                              clear A580
                              by_cases c59 : (ji55) < (x4_1.length : Int)
                              · rw [if_pos c59] at H
                                have c59b0 : decide ((ji55) < (x4_1.length : Int)) = true := decide_eq_true c59
                                clear c59
                                by_cases c60 : t339 = (rd x4_1 (ji55))
                                · rw [if_pos c60] at H
                                  have c60b0 : (t339 == (rd x4_1 (ji55))) = true := beq_iff_eq.mpr c60
                                  have c60b1 : (t339 != (rd x4_1 (ji55))) = false := bne_eq_false_iff_eq.mpr c60
                                  clear c60
                                  have c61b0 := eq_true (of_decide_eq_true (by first | (with_reducible assumption) | assumption) : (ji55) ≤ (x4_1.length : Int))
                                  obtain ⟨y341, hy341⟩ : ∃ y_ : List Int, y_ = (x4_1.take ((ji55) : Int).toNat) := ⟨_, rfl⟩
                                  replace H : (some (y341, true)) = some (r1, r2) := by first | (rw [hy341]; with_reducible exact H) | (have H2_ := (Option.bind_some _ _).symm.trans H; rw [hy341]; with_reducible exact H2_) | (have H2_ := (Option.bind_some _ _).symm.trans H; with_reducible exact H2_) | with_reducible exact H | (rw [hy341]; exact H) | exact H
                                  have Ny341 := Aside0.mk hy341
                                  clear hy341
                                  simp only [Option.some.injEq, Prod.mk.injEq] at H
                                  obtain ⟨rfl, rfl⟩ := H
                                  try go_wp2
                                  have n0_ := Aside0.mk (Kd.R_drew HO_4.out)
                                  have n1_ := Aside0.mk (below_drew1 HB.out)
                                  clear HO_4
                                  clear HB
                                  have HO_4 := n0_
                                  have HB := n1_
                                  clear n0_ n1_
                                  obtain ⟨Ao63, co63, eo63⟩ := Kd.R_slice HO_4.out
                                  (first | subst eo63 | (injection eo63 with f1_ f2_ f3_; have f4_ := f1_.symm; have f5_ := f3_.symm; clear f1_ f2_ f3_; subst f4_; subst f5_))
                                  have p333 : 0 ≤ (0 : Int) := (by omega)
                                  have q333 : 0 < (x4_1.length : Int) := of_decide_eq_true (by first | (with_reducible assumption) | assumption)
                                  obtain ⟨ad333, e333, hx333_0⟩ := Kd.at_int (Kd.R_reads' HO_4.out).2.2 0 p333 q333
                                  cases e333
                                  have qi333 : (0 < x4_1.length) = True := eq_true (by omega)
                                  (try rw [show ((0 : Int)).toNat = 0 from rfl] at hx333_0)
                                  (try rw [Addr.add_zero'] at hx333_0)
                                  replace p333 := eq_true p333
                                  replace q333 := eq_true q333
                                  have p334 : 0 ≤ (0 : Int) := (by omega)
                                  have q334 : 0 < (x4_1.length : Int) := of_decide_eq_true (by first | (with_reducible assumption) | assumption)
                                  obtain ⟨ad334, e334, hx334_0⟩ := Kd.at_int (Kd.R_reads' HO_4.out).2.2 0 p334 q334
                                  obtain rfl : ad333 = ad334 := (by injection e334)
                                  have qi334 : (0 < x4_1.length) = True := eq_true (by omega)
                                  (try rw [show ((0 : Int)).toNat = 0 from rfl] at hx334_0)
                                  (try rw [Addr.add_zero'] at hx334_0)
                                  replace p334 := eq_true p334
                                  replace q334 := eq_true q334
                                  have q64 : ((ji55) : Int) ≤ ((x4_1.length : Int) : Int) := of_decide_eq_true (by first | (with_reducible assumption) | assumption)
                                  obtain ⟨i064, hi064, _, hsz64, _⟩ := info_parts info3
                                  have hroom64 : x4_1.length ≤ co63 := (Kd.R_reads' HO_4.out).2.1
                                  have hC64 : Kd.C (Kd.int .i64) _ (some ad333) x4_1.length x4_1 := (Kd.R_reads' HO_4.out).2.2
                                  have hcut64 := cut_to (P := Tryz.prog) 40 3 .i64 Tryz.underlying40 hi064 (some ad333) x4_1.length co63 (ji55) (of_decide_eq_true (by first | (with_reducible assumption) | assumption)) q64 hroom64
                                  have hr64 := Kd.C_take (m := ((ji55) : Int).toNat) hC64 (by omega)
                                  have hy64 : y335.length = ((ji55) : Int).toNat := (by rw [Ny335.out, List.length_take]; omega)
                                  rw [← Ny335.out] at hr64
                                  rw [← hy64] at hcut64
                                  have HR338 := Aside0.mk hr64
                                  have HC338 := Aside0.mk (show y335.length ≤ co63 from by omega)
                                  clear hr64 hC64 hroom64 hi064 hsz64
                                  have KY64 := Aside0.mk hy64
                                  clear hy64
                                  have KL64 := Aside0.mk (show ((ji55) : Int).toNat ≤ x4_1.length from by omega)
                                  replace q64 := eq_true q64
                                  have p340 : 0 ≤ ((ji55) : Int) := of_decide_eq_true (by first | (with_reducible assumption) | assumption)
                                  have q340 : (ji55) < (x4_1.length : Int) := of_decide_eq_true (by first | (with_reducible assumption) | assumption)
                                  obtain ⟨ad340, e340, hx340_0⟩ := Kd.at_int (Kd.R_reads' HO_4.out).2.2 (ji55) p340 q340
                                  obtain rfl : ad333 = ad340 := (by injection e340)
                                  replace p340 := eq_true p340
                                  replace q340 := eq_true q340
                                  refine start_ (n := 30) (S := fun w' => w'.cell? ad333 = some (.int .i64 (rd x4_1 0)) ∧ w'.cell? ad333 = some (.int .i64 (rd x4_1 0)) ∧ w'.cell? (ad333.add ((ji55)).toNat) = some (.int .i64 (rd x4_1 (ji55)))) (ds := []) #[false, false, false, false, false, false, false, false, false, false, false, false, false, false, false, false, false, false, false, false, false, false, false, false, false, false, false, false, false, false] (by kernel_rfl) rfl rfl ⟨hx333_0, hx334_0, hx340_0⟩ (fun hHeld => ?_); refine with_tabW spec_OD128Values.tab20 spec_OD128Values.bits20 (fun HT_ HW_ => ?_)
                                  generalize wc.drew = w62 at HO_4 HB HR338 hx333_0 hx334_0 hx340_0 hHeld ⊢
                                  refine pure_ (i := 0) (N := some 77) (v := ?_) (a' := ?_) #[true, false, false, false, false, false, false, false, false, false, false, false, false, false, false, false, false, false, false, false, false, false, false, false, false, false, false, false, false, false] rfl rfl (any_of HT_.out (by kernel_rfl)) (fun _ _ _ h => h) (Or.inl ⟨by rfl, ?_⟩) ?_ ?_
                                  rotate_left
                                  · intro w'
                                    go_simp
                                    with_reducible rfl
                                  rotate_left
                                  · simp only [Act.put, List.setIfInBounds_toArray, List.set_cons_zero, List.set_cons_succ, i64_w, i32_w]
                                    rfl
                                  refine pure_ (i := 1) (N := some 78) (v := ?_) (a' := ?_) #[true, true, false, false, false, false, false, false, false, false, false, false, false, false, false, false, false, false, false, false, false, false, false, false, false, false, false, false, false, false] rfl rfl (any_of HT_.out (by kernel_rfl)) (fun _ _ _ h => h) (Or.inl ⟨by rfl, ?_⟩) ?_ ?_
                                  rotate_left
                                  · intro w'
                                    go_simp
                                    with_reducible rfl
                                  rotate_left
                                  · simp only [Act.put, List.setIfInBounds_toArray, List.set_cons_zero, List.set_cons_succ, i64_w, i32_w]
                                    rfl
                                  refine pure_ (i := 2) (N := some 79) (v := ?_) (a' := ?_) #[true, true, true, false, false, false, false, false, false, false, false, false, false, false, false, false, false, false, false, false, false, false, false, false, false, false, false, false, false, false] rfl rfl (any_of HT_.out (by kernel_rfl)) (fun _ _ _ h => h) (Or.inl ⟨by rfl, ?_⟩) ?_ ?_
                                  rotate_left
                                  · intro w'
                                    go_simp
                                    with_reducible rfl
                                  rotate_left
                                  · simp only [Act.put, List.setIfInBounds_toArray, List.set_cons_zero, List.set_cons_succ, i64_w, i32_w]
                                    rfl
                                  refine pure_ (i := 3) (N := some 80) (v := ?_) (a' := ?_) #[true, true, true, true, false, false, false, false, false, false, false, false, false, false, false, false, false, false, false, false, false, false, false, false, false, false, false, false, false, false] rfl rfl (any_of HT_.out (by kernel_rfl)) (fun _ _ _ h => h) (Or.inl ⟨by rfl, ?_⟩) ?_ ?_
                                  rotate_left
                                  · intro w'
                                    go_simp
                                    with_reducible rfl
                                  rotate_left
                                  · simp only [Act.put, List.setIfInBounds_toArray, List.set_cons_zero, List.set_cons_succ, i64_w, i32_w]
                                    rfl
                                  refine pure_ (i := 4) (N := some 81) (v := ?_) (a' := ?_) #[true, true, true, true, true, false, false, false, false, false, false, false, false, false, false, false, false, false, false, false, false, false, false, false, false, false, false, false, false, false] rfl rfl (any_of HT_.out (by kernel_rfl)) (fun _ _ _ h => h) (Or.inl ⟨by rfl, ?_⟩) ?_ ?_
                                  rotate_left
                                  · intro w'
                                    go_simp
                                    with_reducible rfl
                                  rotate_left
                                  · simp only [Act.put, List.setIfInBounds_toArray, List.set_cons_zero, List.set_cons_succ, i64_w, i32_w]
                                    rfl
                                  refine pure_ (i := 5) (N := some 82) (v := ?_) (a' := ?_) #[true, true, true, true, true, true, false, false, false, false, false, false, false, false, false, false, false, false, false, false, false, false, false, false, false, false, false, false, false, false] rfl rfl (any_of HT_.out (by kernel_rfl)) (fun _ _ _ h => h) (Or.inl ⟨by rfl, ?_⟩) ?_ ?_
                                  rotate_left
                                  · intro w'
                                    go_simp
                                    with_reducible rfl
                                  rotate_left
                                  · simp only [Act.put, List.setIfInBounds_toArray, List.set_cons_zero, List.set_cons_succ, i64_w, i32_w]
                                    rfl
                                  refine take_ (i := 6) (N := some 83) (v := ?_) (a' := ?_) #[true, true, true, true, true, true, true, false, false, false, false, false, false, false, false, false, false, false, false, false, false, false, false, false, false, false, false, false, false, false] rfl rfl (take_ofW HT_.out HW_.out (by kernel_rfl)) (fun _ _ _ h => h) (Or.inl ⟨by rfl, ?_⟩) hHeld ?_ ?_
                                  rotate_left
                                  · rintro w' ⟨s0, s1, s2⟩
                                    go_simp
                                    with_reducible rfl
                                  rotate_left
                                  · simp only [Act.put, List.setIfInBounds_toArray, List.set_cons_zero, List.set_cons_succ, i64_w, i32_w]
                                    rfl
                                  refine pure_ (i := 7) (N := some 84) (v := ?_) (a' := ?_) #[true, true, true, true, true, true, true, true, false, false, false, false, false, false, false, false, false, false, false, false, false, false, false, false, false, false, false, false, false, false] rfl rfl (any_of HT_.out (by kernel_rfl)) (fun _ _ _ h => h) (Or.inl ⟨by rfl, ?_⟩) ?_ ?_
                                  rotate_left
                                  · intro w'
                                    go_simp
                                    with_reducible rfl
                                  rotate_left
                                  · simp only [Act.put, List.setIfInBounds_toArray, List.set_cons_zero, List.set_cons_succ, i64_w, i32_w]
                                    rfl
                                  refine pure_ (i := 8) (N := some 85) (v := ?_) (a' := ?_) #[true, true, true, true, true, true, true, true, true, false, false, false, false, false, false, false, false, false, false, false, false, false, false, false, false, false, false, false, false, false] rfl rfl (any_of HT_.out (by kernel_rfl)) (fun _ _ _ h => h) (Or.inl ⟨by rfl, ?_⟩) ?_ ?_
                                  rotate_left
                                  · intro w'
                                    go_simp
                                    with_reducible rfl
                                  rotate_left
                                  · simp only [Act.put, List.setIfInBounds_toArray, List.set_cons_zero, List.set_cons_succ, i64_w, i32_w]
                                    rfl
                                  refine pure_ (i := 9) (N := some 86) (v := ?_) (a' := ?_) #[true, true, true, true, true, true, true, true, true, true, false, false, false, false, false, false, false, false, false, false, false, false, false, false, false, false, false, false, false, false] rfl rfl (any_of HT_.out (by kernel_rfl)) (fun _ _ _ h => h) (Or.inl ⟨by rfl, ?_⟩) ?_ ?_
                                  rotate_left
                                  · intro w'
                                    go_simp
                                    with_reducible rfl
                                  rotate_left
                                  · simp only [Act.put, List.setIfInBounds_toArray, List.set_cons_zero, List.set_cons_succ, i64_w, i32_w]
                                    rfl
                                  refine pure_ (i := 10) (N := some 87) (v := ?_) (a' := ?_) #[true, true, true, true, true, true, true, true, true, true, true, false, false, false, false, false, false, false, false, false, false, false, false, false, false, false, false, false, false, false] rfl rfl (any_of HT_.out (by kernel_rfl)) (fun _ _ _ h => h) (Or.inl ⟨by rfl, ?_⟩) ?_ ?_
                                  rotate_left
                                  · intro w'
                                    go_simp
                                    with_reducible rfl
                                  rotate_left
                                  · simp only [Act.put, List.setIfInBounds_toArray, List.set_cons_zero, List.set_cons_succ, i64_w, i32_w]
                                    rfl
                                  refine pure_ (i := 11) (N := some 88) (v := ?_) (a' := ?_) #[true, true, true, true, true, true, true, true, true, true, true, true, false, false, false, false, false, false, false, false, false, false, false, false, false, false, false, false, false, false] rfl rfl (any_of HT_.out (by kernel_rfl)) (fun _ _ _ h => h) (Or.inl ⟨by rfl, ?_⟩) ?_ ?_
                                  rotate_left
                                  · intro w'
                                    go_simp
                                    with_reducible rfl
                                  rotate_left
                                  · simp only [Act.put, List.setIfInBounds_toArray, List.set_cons_zero, List.set_cons_succ, i64_w, i32_w]
                                    rfl
                                  refine take_ (i := 12) (N := some 89) (v := ?_) (a' := ?_) #[true, true, true, true, true, true, true, true, true, true, true, true, true, false, false, false, false, false, false, false, false, false, false, false, false, false, false, false, false, false] rfl rfl (take_ofW HT_.out HW_.out (by kernel_rfl)) (fun _ _ _ h => h) (Or.inl ⟨by rfl, ?_⟩) hHeld ?_ ?_
                                  rotate_left
                                  · rintro w' ⟨s0, s1, s2⟩
                                    go_simp
                                    with_reducible rfl
                                  rotate_left
                                  · simp only [Act.put, List.setIfInBounds_toArray, List.set_cons_zero, List.set_cons_succ, i64_w, i32_w]
                                    rfl
                                  refine pure_ (i := 13) (N := some 90) (v := ?_) (a' := ?_) #[true, true, true, true, true, true, true, true, true, true, true, true, true, true, false, false, false, false, false, false, false, false, false, false, false, false, false, false, false, false] rfl rfl (any_of HT_.out (by kernel_rfl)) (fun _ _ _ h => h) (Or.inl ⟨by rfl, ?_⟩) ?_ ?_
                                  rotate_left
                                  · intro w'
                                    go_simp
                                    with_reducible rfl
                                  rotate_left
                                  · simp only [Act.put, List.setIfInBounds_toArray, List.set_cons_zero, List.set_cons_succ, i64_w, i32_w]
                                    rfl
                                  refine pure_ (i := 14) (N := some 91) (v := ?_) (a' := ?_) #[true, true, true, true, true, true, true, true, true, true, true, true, true, true, true, false, false, false, false, false, false, false, false, false, false, false, false, false, false, false] rfl rfl (any_of HT_.out (by kernel_rfl)) (fun _ _ _ h => h) (Or.inl ⟨by rfl, ?_⟩) ?_ ?_
                                  rotate_left
                                  · intro w'
                                    go_simp
                                    with_reducible rfl
                                  rotate_left
                                  · simp only [Act.put, List.setIfInBounds_toArray, List.set_cons_zero, List.set_cons_succ, i64_w, i32_w]
                                    rfl
                                  refine pure_ (i := 15) (N := some 92) (v := ?_) (a' := ?_) #[true, true, true, true, true, true, true, true, true, true, true, true, true, true, true, true, false, false, false, false, false, false, false, false, false, false, false, false, false, false] rfl rfl (any_of HT_.out (by kernel_rfl)) (fun _ _ _ h => h) (Or.inl ⟨by rfl, ?_⟩) ?_ ?_
                                  rotate_left
                                  · intro w'
                                    go_simp
                                    with_reducible rfl
                                  rotate_left
                                  · simp only [Act.put, List.setIfInBounds_toArray, List.set_cons_zero, List.set_cons_succ, i64_w, i32_w]
                                    rfl
                                  refine pure_ (i := 16) (N := some 93) (v := ?_) (a' := ?_) #[true, true, true, true, true, true, true, true, true, true, true, true, true, true, true, true, true, false, false, false, false, false, false, false, false, false, false, false, false, false] rfl rfl (any_of HT_.out (by kernel_rfl)) (fun _ _ _ h => h) (Or.inl ⟨by rfl, ?_⟩) ?_ ?_
                                  rotate_left
                                  · intro w'
                                    go_simp
                                    with_reducible rfl
                                  rotate_left
                                  · simp only [Act.put, List.setIfInBounds_toArray, List.set_cons_zero, List.set_cons_succ, i64_w, i32_w]
                                    rfl
                                  refine pure_ (i := 17) (N := some 94) (v := ?_) (a' := ?_) #[true, true, true, true, true, true, true, true, true, true, true, true, true, true, true, true, true, true, false, false, false, false, false, false, false, false, false, false, false, false] rfl rfl (any_of HT_.out (by kernel_rfl)) (fun _ _ _ h => h) (Or.inl ⟨by rfl, ?_⟩) ?_ ?_
                                  rotate_left
                                  · intro w'
                                    go_simp
                                    with_reducible rfl
                                  rotate_left
                                  · simp only [Act.put, List.setIfInBounds_toArray, List.set_cons_zero, List.set_cons_succ, i64_w, i32_w]
                                    rfl
                                  refine pure_ (i := 18) (N := some 95) (v := ?_) (a' := ?_) #[true, true, true, true, true, true, true, true, true, true, true, true, true, true, true, true, true, true, true, false, false, false, false, false, false, false, false, false, false, false] rfl rfl (any_of HT_.out (by kernel_rfl)) (fun _ _ _ h => h) (Or.inl ⟨by rfl, ?_⟩) ?_ ?_
                                  rotate_left
                                  · intro w'
                                    go_simp
                                    with_reducible rfl
                                  rotate_left
                                  · simp only [Act.put, List.setIfInBounds_toArray, List.set_cons_zero, List.set_cons_succ, i64_w, i32_w]
                                    rfl
                                  refine pure_ (i := 19) (N := some 96) (v := ?_) (a' := ?_) #[true, true, true, true, true, true, true, true, true, true, true, true, true, true, true, true, true, true, true, true, false, false, false, false, false, false, false, false, false, false] rfl rfl (any_of HT_.out (by kernel_rfl)) (fun _ _ _ h => h) (Or.inl ⟨by rfl, ?_⟩) ?_ ?_
                                  rotate_left
                                  · intro w'
                                    go_simp
                                    with_reducible rfl
                                  rotate_left
                                  · simp only [Act.put, List.setIfInBounds_toArray, List.set_cons_zero, List.set_cons_succ, i64_w, i32_w]
                                    rfl
                                  refine pure_ (i := 20) (N := some 97) (v := ?_) (a' := ?_) #[true, true, true, true, true, true, true, true, true, true, true, true, true, true, true, true, true, true, true, true, true, false, false, false, false, false, false, false, false, false] rfl rfl (any_of HT_.out (by kernel_rfl)) (fun _ _ _ h => h) (Or.inl ⟨by rfl, ?_⟩) ?_ ?_
                                  rotate_left
                                  · intro w'
                                    go_simp
                                    with_reducible rfl
                                  rotate_left
                                  · simp only [Act.put, List.setIfInBounds_toArray, List.set_cons_zero, List.set_cons_succ, i64_w, i32_w]
                                    rfl
                                  refine pure_ (i := 22) (N := some 99) (v := ?_) (a' := ?_) #[true, true, true, true, true, true, true, true, true, true, true, true, true, true, true, true, true, true, true, true, true, false, true, false, false, false, false, false, false, false] rfl rfl (any_of HT_.out (by kernel_rfl)) (fun _ _ _ h => h) (Or.inl ⟨by rfl, ?_⟩) ?_ ?_
                                  rotate_left
                                  · intro w'
                                    go_simp
                                    with_reducible rfl
                                  rotate_left
                                  · simp only [Act.put, List.setIfInBounds_toArray, List.set_cons_zero, List.set_cons_succ, i64_w, i32_w]
                                    rfl
                                  refine pure_ (i := 23) (N := some 100) (v := ?_) (a' := ?_) #[true, true, true, true, true, true, true, true, true, true, true, true, true, true, true, true, true, true, true, true, true, false, true, true, false, false, false, false, false, false] rfl rfl (any_of HT_.out (by kernel_rfl)) (fun _ _ _ h => h) (Or.inl ⟨by rfl, ?_⟩) ?_ ?_
                                  rotate_left
                                  · intro w'
                                    go_simp
                                    with_reducible rfl
                                  rotate_left
                                  · simp only [Act.put, List.setIfInBounds_toArray, List.set_cons_zero, List.set_cons_succ, i64_w, i32_w]
                                    rfl
                                  refine pure_ (i := 24) (N := some 101) (v := ?_) (a' := ?_) #[true, true, true, true, true, true, true, true, true, true, true, true, true, true, true, true, true, true, true, true, true, false, true, true, true, false, false, false, false, false] rfl rfl (any_of HT_.out (by kernel_rfl)) (fun _ _ _ h => h) (Or.inl ⟨by rfl, ?_⟩) ?_ ?_
                                  rotate_left
                                  · intro w'
                                    go_simp
                                    with_reducible rfl
                                  rotate_left
                                  · simp only [Act.put, List.setIfInBounds_toArray, List.set_cons_zero, List.set_cons_succ, i64_w, i32_w]
                                    rfl
                                  refine pure_ (i := 25) (N := some 102) (v := ?_) (a' := ?_) #[true, true, true, true, true, true, true, true, true, true, true, true, true, true, true, true, true, true, true, true, true, false, true, true, true, true, false, false, false, false] rfl rfl (any_of HT_.out (by kernel_rfl)) (fun _ _ _ h => h) (Or.inl ⟨by rfl, ?_⟩) ?_ ?_
                                  rotate_left
                                  · intro w'
                                    go_simp
                                    with_reducible rfl
                                  rotate_left
                                  · simp only [Act.put, List.setIfInBounds_toArray, List.set_cons_zero, List.set_cons_succ, i64_w, i32_w]
                                    rfl
                                  refine pure_ (i := 26) (N := some 103) (v := ?_) (a' := ?_) #[true, true, true, true, true, true, true, true, true, true, true, true, true, true, true, true, true, true, true, true, true, false, true, true, true, true, true, false, false, false] rfl rfl (any_of HT_.out (by kernel_rfl)) (fun _ _ _ h => h) (Or.inl ⟨by rfl, ?_⟩) ?_ ?_
                                  rotate_left
                                  · intro w'
                                    go_simp
                                    with_reducible rfl
                                  rotate_left
                                  · simp only [Act.put, List.setIfInBounds_toArray, List.set_cons_zero, List.set_cons_succ, i64_w, i32_w]
                                    rfl
                                  refine take_ (i := 27) (N := some 104) (v := ?_) (a' := ?_) #[true, true, true, true, true, true, true, true, true, true, true, true, true, true, true, true, true, true, true, true, true, false, true, true, true, true, true, true, false, false] rfl rfl (take_ofW HT_.out HW_.out (by kernel_rfl)) (fun _ _ _ h => h) (Or.inl ⟨by rfl, ?_⟩) hHeld ?_ ?_
                                  rotate_left
                                  · rintro w' ⟨s0, s1, s2⟩
                                    go_simp
                                    with_reducible rfl
                                  rotate_left
                                  · simp only [Act.put, List.setIfInBounds_toArray, List.set_cons_zero, List.set_cons_succ, i64_w, i32_w]
                                    rfl
                                  refine one_ (i := 21) (N := some 98) #[true, true, true, true, true, true, true, true, true, true, true, true, true, true, true, true, true, true, true, true, true, true, true, true, true, true, true, true, false, false] rfl rfl (one_of HT_.out (by kernel_rfl)) (by decide) (fun K hK => ?_)
                                  refine goes_ Tryz.func46 (by kernel_rfl) rfl #[.slice (some ad333) y335.length co63] (by rfl) rfl rfl (by (try simp only [List.map_toArray, List.map_cons, List.map_nil]); first | done | rfl | (simp only [List.length_drop, List.length_take]; rfl)) ?_
                                  with_reducible refine (spec_OD128Check.calls kj39 _ _ y335 t339 _ ?side1 ?side2 A58.out).mono ?_
                                  (case side1 => repeat (first | exact (by repeat (first | (with_reducible exact HR338.out) | (with_reducible refine Kd.C_alloc ?_ _) | (with_reducible refine Kd.C_drewN ?_ _) | (with_reducible refine Kd.C_drew ?_) | exact HR338.out)) | (with_reducible refine Kd.C_alloc ?_ _) | (with_reducible refine Kd.C_drewN ?_ _) | (with_reducible refine Kd.C_drew ?_)))
                                  (case side2 => exact HC338.out)
                                  rintro e w' ⟨rfl, ⟨nd, rfl⟩⟩
                                  refine ⟨_, rfl, ?_⟩
                                  refine hK.out _ _ ⟨hHeld.1, hHeld.2.1, hHeld.2.2⟩ (fun hHeld => ?_)
                                  clear hK K
                                  refine norm_ (a' := ?_) ?_ ?_
                                  rotate_left
                                  · show Act.put _ (some 98) _ = _
                                    simp only [Act.put, List.setIfInBounds_toArray, List.set_cons_zero, List.set_cons_succ, i64_w, i32_w]
                                    rfl
                                  refine pure_ (i := 28) (N := some 105) (v := ?_) (a' := ?_) #[true, true, true, true, true, true, true, true, true, true, true, true, true, true, true, true, true, true, true, true, true, true, true, true, true, true, true, true, true, false] rfl rfl (any_of HT_.out (by kernel_rfl)) (fun _ _ _ h => h) (Or.inl ⟨by rfl, ?_⟩) ?_ ?_
                                  rotate_left
                                  · intro w'
                                    go_simp
                                    with_reducible rfl
                                  rotate_left
                                  · simp only [Act.put, List.setIfInBounds_toArray, List.set_cons_zero, List.set_cons_succ, i64_w, i32_w]
                                    rfl
                                  refine pure_ (i := 29) (N := some 106) (v := ?_) (a' := ?_) #[true, true, true, true, true, true, true, true, true, true, true, true, true, true, true, true, true, true, true, true, true, true, true, true, true, true, true, true, true, true] rfl rfl (any_of HT_.out (by kernel_rfl)) (fun _ _ _ h => h) (Or.inl ⟨by rfl, ?_⟩) ?_ ?_
                                  rotate_left
                                  · intro w'
                                    go_simp
                                    with_reducible rfl
                                  rotate_left
                                  · simp only [Act.put, List.setIfInBounds_toArray, List.set_cons_zero, List.set_cons_succ, i64_w, i32_w]
                                    rfl
                                  refine done_ (done_of HT_.out (by kernel_rfl)) ?_
                                  have q65 : ((ji55) : Int) ≤ ((x4_1.length : Int) : Int) := of_decide_eq_true (by first | (with_reducible assumption) | assumption)
                                  obtain ⟨i065, hi065, _, hsz65, _⟩ := info_parts info3
                                  have hcut65 := cut_to (P := Tryz.prog) 40 3 .i64 Tryz.underlying40 hi065 (some ad333) x4_1.length co63 (ji55) (of_decide_eq_true (by first | (with_reducible assumption) | assumption)) q65 (Kd.R_reads' HO_4.out).2.1
                                  have hr65 := Kd.R_take (m := ((ji55) : Int).toNat) HO_4.out (by omega)
                                  have hy65 : y341.length = ((ji55) : Int).toNat := (by rw [Ny341.out, List.length_take]; omega)
                                  rw [← Ny341.out] at hr65
                                  rw [← hy65] at hr65 hcut65
                                  clear hy65 hi065 hsz65 HO_4
                                  have HO343 := Aside0.mk hr65
                                  clear hr65
                                  replace q65 := eq_true q65
                                  try go_wp2
                                  go_ret2
                                  exact ⟨_, by first | rfl | (simp [errW_none, errW_some] <;> rfl) | (simp only [← hji55]; first | rfl | (simp [errW_none, errW_some] <;> rfl)) | (simp [*, errW_none, errW_some] <;> rfl), by (with_reducible repeat (first | apply Kd.R_alloc | apply Kd.R_drewN | apply Kd.R_drew)); first | exact HO343.out | (have hh_ := HO343.out; rw [show y341 = y335 from by rw [Ny341.out, Ny335.out]] at hh_ ⊢; exact hh_), by repeat (first | (with_reducible first | exact HB.out | apply below_alloc | apply pw_below_drewN | apply below_drew1) | exact HB.out)⟩
                                · rw [if_neg c60] at H
                                  have c60b0 : (t339 == (rd x4_1 (ji55))) = false := beq_eq_false_iff_ne.mpr c60
                                  have c60b1 : (t339 != (rd x4_1 (ji55))) = true := bne_iff_ne.mpr c60
                                  simp only [Option.some.injEq, Prod.mk.injEq] at H
                                  obtain ⟨rfl, rfl⟩ := H
                                  try go_wp2
                                  have n0_ := Aside0.mk (Kd.R_drew HO_4.out)
                                  have n1_ := Aside0.mk (below_drew1 HB.out)
                                  clear HO_4
                                  clear HB
                                  have HO_4 := n0_
                                  have HB := n1_
                                  clear n0_ n1_
                                  obtain ⟨Ao67, co67, eo67⟩ := Kd.R_slice HO_4.out
                                  (first | subst eo67 | (injection eo67 with f1_ f2_ f3_; have f4_ := f1_.symm; have f5_ := f3_.symm; clear f1_ f2_ f3_; subst f4_; subst f5_))
                                  have p333 : 0 ≤ (0 : Int) := (by omega)
                                  have q333 : 0 < (x4_1.length : Int) := of_decide_eq_true (by first | (with_reducible assumption) | assumption)
                                  obtain ⟨ad333, e333, hx333_0⟩ := Kd.at_int (Kd.R_reads' HO_4.out).2.2 0 p333 q333
                                  cases e333
                                  have qi333 : (0 < x4_1.length) = True := eq_true (by omega)
                                  (try rw [show ((0 : Int)).toNat = 0 from rfl] at hx333_0)
                                  (try rw [Addr.add_zero'] at hx333_0)
                                  replace p333 := eq_true p333
                                  replace q333 := eq_true q333
                                  have p334 : 0 ≤ (0 : Int) := (by omega)
                                  have q334 : 0 < (x4_1.length : Int) := of_decide_eq_true (by first | (with_reducible assumption) | assumption)
                                  obtain ⟨ad334, e334, hx334_0⟩ := Kd.at_int (Kd.R_reads' HO_4.out).2.2 0 p334 q334
                                  obtain rfl : ad333 = ad334 := (by injection e334)
                                  have qi334 : (0 < x4_1.length) = True := eq_true (by omega)
                                  (try rw [show ((0 : Int)).toNat = 0 from rfl] at hx334_0)
                                  (try rw [Addr.add_zero'] at hx334_0)
                                  replace p334 := eq_true p334
                                  replace q334 := eq_true q334
                                  have q68 : ((ji55) : Int) ≤ ((x4_1.length : Int) : Int) := of_decide_eq_true (by first | (with_reducible assumption) | assumption)
                                  obtain ⟨i068, hi068, _, hsz68, _⟩ := info_parts info3
                                  have hroom68 : x4_1.length ≤ co67 := (Kd.R_reads' HO_4.out).2.1
                                  have hC68 : Kd.C (Kd.int .i64) _ (some ad333) x4_1.length x4_1 := (Kd.R_reads' HO_4.out).2.2
                                  have hcut68 := cut_to (P := Tryz.prog) 40 3 .i64 Tryz.underlying40 hi068 (some ad333) x4_1.length co67 (ji55) (of_decide_eq_true (by first | (with_reducible assumption) | assumption)) q68 hroom68
                                  have hr68 := Kd.C_take (m := ((ji55) : Int).toNat) hC68 (by omega)
                                  have hy68 : y335.length = ((ji55) : Int).toNat := (by rw [Ny335.out, List.length_take]; omega)
                                  rw [← Ny335.out] at hr68
                                  rw [← hy68] at hcut68
                                  have HR338 := Aside0.mk hr68
                                  have HC338 := Aside0.mk (show y335.length ≤ co67 from by omega)
                                  clear hr68 hC68 hroom68 hi068 hsz68
                                  have KY68 := Aside0.mk hy68
                                  clear hy68
                                  have KL68 := Aside0.mk (show ((ji55) : Int).toNat ≤ x4_1.length from by omega)
                                  replace q68 := eq_true q68
                                  have p340 : 0 ≤ ((ji55) : Int) := of_decide_eq_true (by first | (with_reducible assumption) | assumption)
                                  have q340 : (ji55) < (x4_1.length : Int) := of_decide_eq_true (by first | (with_reducible assumption) | assumption)
                                  obtain ⟨ad340, e340, hx340_0⟩ := Kd.at_int (Kd.R_reads' HO_4.out).2.2 (ji55) p340 q340
                                  obtain rfl : ad333 = ad340 := (by injection e340)
                                  replace p340 := eq_true p340
                                  replace q340 := eq_true q340
                                  refine start_ (n := 30) (S := fun w' => w'.cell? ad333 = some (.int .i64 (rd x4_1 0)) ∧ w'.cell? ad333 = some (.int .i64 (rd x4_1 0)) ∧ w'.cell? (ad333.add ((ji55)).toNat) = some (.int .i64 (rd x4_1 (ji55)))) (ds := []) #[false, false, false, false, false, false, false, false, false, false, false, false, false, false, false, false, false, false, false, false, false, false, false, false, false, false, false, false, false, false] (by kernel_rfl) rfl rfl ⟨hx333_0, hx334_0, hx340_0⟩ (fun hHeld => ?_); refine with_tabW spec_OD128Values.tab20 spec_OD128Values.bits20 (fun HT_ HW_ => ?_)
                                  generalize wc.drew = w66 at HO_4 HB HR338 hx333_0 hx334_0 hx340_0 hHeld ⊢
                                  refine pure_ (i := 0) (N := some 77) (v := ?_) (a' := ?_) #[true, false, false, false, false, false, false, false, false, false, false, false, false, false, false, false, false, false, false, false, false, false, false, false, false, false, false, false, false, false] rfl rfl (any_of HT_.out (by kernel_rfl)) (fun _ _ _ h => h) (Or.inl ⟨by rfl, ?_⟩) ?_ ?_
                                  rotate_left
                                  · intro w'
                                    go_simp
                                    with_reducible rfl
                                  rotate_left
                                  · simp only [Act.put, List.setIfInBounds_toArray, List.set_cons_zero, List.set_cons_succ, i64_w, i32_w]
                                    rfl
                                  refine pure_ (i := 1) (N := some 78) (v := ?_) (a' := ?_) #[true, true, false, false, false, false, false, false, false, false, false, false, false, false, false, false, false, false, false, false, false, false, false, false, false, false, false, false, false, false] rfl rfl (any_of HT_.out (by kernel_rfl)) (fun _ _ _ h => h) (Or.inl ⟨by rfl, ?_⟩) ?_ ?_
                                  rotate_left
                                  · intro w'
                                    go_simp
                                    with_reducible rfl
                                  rotate_left
                                  · simp only [Act.put, List.setIfInBounds_toArray, List.set_cons_zero, List.set_cons_succ, i64_w, i32_w]
                                    rfl
                                  refine pure_ (i := 2) (N := some 79) (v := ?_) (a' := ?_) #[true, true, true, false, false, false, false, false, false, false, false, false, false, false, false, false, false, false, false, false, false, false, false, false, false, false, false, false, false, false] rfl rfl (any_of HT_.out (by kernel_rfl)) (fun _ _ _ h => h) (Or.inl ⟨by rfl, ?_⟩) ?_ ?_
                                  rotate_left
                                  · intro w'
                                    go_simp
                                    with_reducible rfl
                                  rotate_left
                                  · simp only [Act.put, List.setIfInBounds_toArray, List.set_cons_zero, List.set_cons_succ, i64_w, i32_w]
                                    rfl
                                  refine pure_ (i := 3) (N := some 80) (v := ?_) (a' := ?_) #[true, true, true, true, false, false, false, false, false, false, false, false, false, false, false, false, false, false, false, false, false, false, false, false, false, false, false, false, false, false] rfl rfl (any_of HT_.out (by kernel_rfl)) (fun _ _ _ h => h) (Or.inl ⟨by rfl, ?_⟩) ?_ ?_
                                  rotate_left
                                  · intro w'
                                    go_simp
                                    with_reducible rfl
                                  rotate_left
                                  · simp only [Act.put, List.setIfInBounds_toArray, List.set_cons_zero, List.set_cons_succ, i64_w, i32_w]
                                    rfl
                                  refine pure_ (i := 4) (N := some 81) (v := ?_) (a' := ?_) #[true, true, true, true, true, false, false, false, false, false, false, false, false, false, false, false, false, false, false, false, false, false, false, false, false, false, false, false, false, false] rfl rfl (any_of HT_.out (by kernel_rfl)) (fun _ _ _ h => h) (Or.inl ⟨by rfl, ?_⟩) ?_ ?_
                                  rotate_left
                                  · intro w'
                                    go_simp
                                    with_reducible rfl
                                  rotate_left
                                  · simp only [Act.put, List.setIfInBounds_toArray, List.set_cons_zero, List.set_cons_succ, i64_w, i32_w]
                                    rfl
                                  refine pure_ (i := 5) (N := some 82) (v := ?_) (a' := ?_) #[true, true, true, true, true, true, false, false, false, false, false, false, false, false, false, false, false, false, false, false, false, false, false, false, false, false, false, false, false, false] rfl rfl (any_of HT_.out (by kernel_rfl)) (fun _ _ _ h => h) (Or.inl ⟨by rfl, ?_⟩) ?_ ?_
                                  rotate_left
                                  · intro w'
                                    go_simp
                                    with_reducible rfl
                                  rotate_left
                                  · simp only [Act.put, List.setIfInBounds_toArray, List.set_cons_zero, List.set_cons_succ, i64_w, i32_w]
                                    rfl
                                  refine take_ (i := 6) (N := some 83) (v := ?_) (a' := ?_) #[true, true, true, true, true, true, true, false, false, false, false, false, false, false, false, false, false, false, false, false, false, false, false, false, false, false, false, false, false, false] rfl rfl (take_ofW HT_.out HW_.out (by kernel_rfl)) (fun _ _ _ h => h) (Or.inl ⟨by rfl, ?_⟩) hHeld ?_ ?_
                                  rotate_left
                                  · rintro w' ⟨s0, s1, s2⟩
                                    go_simp
                                    with_reducible rfl
                                  rotate_left
                                  · simp only [Act.put, List.setIfInBounds_toArray, List.set_cons_zero, List.set_cons_succ, i64_w, i32_w]
                                    rfl
                                  refine pure_ (i := 7) (N := some 84) (v := ?_) (a' := ?_) #[true, true, true, true, true, true, true, true, false, false, false, false, false, false, false, false, false, false, false, false, false, false, false, false, false, false, false, false, false, false] rfl rfl (any_of HT_.out (by kernel_rfl)) (fun _ _ _ h => h) (Or.inl ⟨by rfl, ?_⟩) ?_ ?_
                                  rotate_left
                                  · intro w'
                                    go_simp
                                    with_reducible rfl
                                  rotate_left
                                  · simp only [Act.put, List.setIfInBounds_toArray, List.set_cons_zero, List.set_cons_succ, i64_w, i32_w]
                                    rfl
                                  refine pure_ (i := 8) (N := some 85) (v := ?_) (a' := ?_) #[true, true, true, true, true, true, true, true, true, false, false, false, false, false, false, false, false, false, false, false, false, false, false, false, false, false, false, false, false, false] rfl rfl (any_of HT_.out (by kernel_rfl)) (fun _ _ _ h => h) (Or.inl ⟨by rfl, ?_⟩) ?_ ?_
                                  rotate_left
                                  · intro w'
                                    go_simp
                                    with_reducible rfl
                                  rotate_left
                                  · simp only [Act.put, List.setIfInBounds_toArray, List.set_cons_zero, List.set_cons_succ, i64_w, i32_w]
                                    rfl
                                  refine pure_ (i := 9) (N := some 86) (v := ?_) (a' := ?_) #[true, true, true, true, true, true, true, true, true, true, false, false, false, false, false, false, false, false, false, false, false, false, false, false, false, false, false, false, false, false] rfl rfl (any_of HT_.out (by kernel_rfl)) (fun _ _ _ h => h) (Or.inl ⟨by rfl, ?_⟩) ?_ ?_
                                  rotate_left
                                  · intro w'
                                    go_simp
                                    with_reducible rfl
                                  rotate_left
                                  · simp only [Act.put, List.setIfInBounds_toArray, List.set_cons_zero, List.set_cons_succ, i64_w, i32_w]
                                    rfl
                                  refine pure_ (i := 10) (N := some 87) (v := ?_) (a' := ?_) #[true, true, true, true, true, true, true, true, true, true, true, false, false, false, false, false, false, false, false, false, false, false, false, false, false, false, false, false, false, false] rfl rfl (any_of HT_.out (by kernel_rfl)) (fun _ _ _ h => h) (Or.inl ⟨by rfl, ?_⟩) ?_ ?_
                                  rotate_left
                                  · intro w'
                                    go_simp
                                    with_reducible rfl
                                  rotate_left
                                  · simp only [Act.put, List.setIfInBounds_toArray, List.set_cons_zero, List.set_cons_succ, i64_w, i32_w]
                                    rfl
                                  refine pure_ (i := 11) (N := some 88) (v := ?_) (a' := ?_) #[true, true, true, true, true, true, true, true, true, true, true, true, false, false, false, false, false, false, false, false, false, false, false, false, false, false, false, false, false, false] rfl rfl (any_of HT_.out (by kernel_rfl)) (fun _ _ _ h => h) (Or.inl ⟨by rfl, ?_⟩) ?_ ?_
                                  rotate_left
                                  · intro w'
                                    go_simp
                                    with_reducible rfl
                                  rotate_left
                                  · simp only [Act.put, List.setIfInBounds_toArray, List.set_cons_zero, List.set_cons_succ, i64_w, i32_w]
                                    rfl
                                  refine take_ (i := 12) (N := some 89) (v := ?_) (a' := ?_) #[true, true, true, true, true, true, true, true, true, true, true, true, true, false, false, false, false, false, false, false, false, false, false, false, false, false, false, false, false, false] rfl rfl (take_ofW HT_.out HW_.out (by kernel_rfl)) (fun _ _ _ h => h) (Or.inl ⟨by rfl, ?_⟩) hHeld ?_ ?_
                                  rotate_left
                                  · rintro w' ⟨s0, s1, s2⟩
                                    go_simp
                                    with_reducible rfl
                                  rotate_left
                                  · simp only [Act.put, List.setIfInBounds_toArray, List.set_cons_zero, List.set_cons_succ, i64_w, i32_w]
                                    rfl
                                  refine pure_ (i := 13) (N := some 90) (v := ?_) (a' := ?_) #[true, true, true, true, true, true, true, true, true, true, true, true, true, true, false, false, false, false, false, false, false, false, false, false, false, false, false, false, false, false] rfl rfl (any_of HT_.out (by kernel_rfl)) (fun _ _ _ h => h) (Or.inl ⟨by rfl, ?_⟩) ?_ ?_
                                  rotate_left
                                  · intro w'
                                    go_simp
                                    with_reducible rfl
                                  rotate_left
                                  · simp only [Act.put, List.setIfInBounds_toArray, List.set_cons_zero, List.set_cons_succ, i64_w, i32_w]
                                    rfl
                                  refine pure_ (i := 14) (N := some 91) (v := ?_) (a' := ?_) #[true, true, true, true, true, true, true, true, true, true, true, true, true, true, true, false, false, false, false, false, false, false, false, false, false, false, false, false, false, false] rfl rfl (any_of HT_.out (by kernel_rfl)) (fun _ _ _ h => h) (Or.inl ⟨by rfl, ?_⟩) ?_ ?_
                                  rotate_left
                                  · intro w'
                                    go_simp
                                    with_reducible rfl
                                  rotate_left
                                  · simp only [Act.put, List.setIfInBounds_toArray, List.set_cons_zero, List.set_cons_succ, i64_w, i32_w]
                                    rfl
                                  refine pure_ (i := 15) (N := some 92) (v := ?_) (a' := ?_) #[true, true, true, true, true, true, true, true, true, true, true, true, true, true, true, true, false, false, false, false, false, false, false, false, false, false, false, false, false, false] rfl rfl (any_of HT_.out (by kernel_rfl)) (fun _ _ _ h => h) (Or.inl ⟨by rfl, ?_⟩) ?_ ?_
                                  rotate_left
                                  · intro w'
                                    go_simp
                                    with_reducible rfl
                                  rotate_left
                                  · simp only [Act.put, List.setIfInBounds_toArray, List.set_cons_zero, List.set_cons_succ, i64_w, i32_w]
                                    rfl
                                  refine pure_ (i := 16) (N := some 93) (v := ?_) (a' := ?_) #[true, true, true, true, true, true, true, true, true, true, true, true, true, true, true, true, true, false, false, false, false, false, false, false, false, false, false, false, false, false] rfl rfl (any_of HT_.out (by kernel_rfl)) (fun _ _ _ h => h) (Or.inl ⟨by rfl, ?_⟩) ?_ ?_
                                  rotate_left
                                  · intro w'
                                    go_simp
                                    with_reducible rfl
                                  rotate_left
                                  · simp only [Act.put, List.setIfInBounds_toArray, List.set_cons_zero, List.set_cons_succ, i64_w, i32_w]
                                    rfl
                                  refine pure_ (i := 17) (N := some 94) (v := ?_) (a' := ?_) #[true, true, true, true, true, true, true, true, true, true, true, true, true, true, true, true, true, true, false, false, false, false, false, false, false, false, false, false, false, false] rfl rfl (any_of HT_.out (by kernel_rfl)) (fun _ _ _ h => h) (Or.inl ⟨by rfl, ?_⟩) ?_ ?_
                                  rotate_left
                                  · intro w'
                                    go_simp
                                    with_reducible rfl
                                  rotate_left
                                  · simp only [Act.put, List.setIfInBounds_toArray, List.set_cons_zero, List.set_cons_succ, i64_w, i32_w]
                                    rfl
                                  refine pure_ (i := 18) (N := some 95) (v := ?_) (a' := ?_) #[true, true, true, true, true, true, true, true, true, true, true, true, true, true, true, true, true, true, true, false, false, false, false, false, false, false, false, false, false, false] rfl rfl (any_of HT_.out (by kernel_rfl)) (fun _ _ _ h => h) (Or.inl ⟨by rfl, ?_⟩) ?_ ?_
                                  rotate_left
                                  · intro w'
                                    go_simp
                                    with_reducible rfl
                                  rotate_left
                                  · simp only [Act.put, List.setIfInBounds_toArray, List.set_cons_zero, List.set_cons_succ, i64_w, i32_w]
                                    rfl
                                  refine pure_ (i := 19) (N := some 96) (v := ?_) (a' := ?_) #[true, true, true, true, true, true, true, true, true, true, true, true, true, true, true, true, true, true, true, true, false, false, false, false, false, false, false, false, false, false] rfl rfl (any_of HT_.out (by kernel_rfl)) (fun _ _ _ h => h) (Or.inl ⟨by rfl, ?_⟩) ?_ ?_
                                  rotate_left
                                  · intro w'
                                    go_simp
                                    with_reducible rfl
                                  rotate_left
                                  · simp only [Act.put, List.setIfInBounds_toArray, List.set_cons_zero, List.set_cons_succ, i64_w, i32_w]
                                    rfl
                                  refine pure_ (i := 20) (N := some 97) (v := ?_) (a' := ?_) #[true, true, true, true, true, true, true, true, true, true, true, true, true, true, true, true, true, true, true, true, true, false, false, false, false, false, false, false, false, false] rfl rfl (any_of HT_.out (by kernel_rfl)) (fun _ _ _ h => h) (Or.inl ⟨by rfl, ?_⟩) ?_ ?_
                                  rotate_left
                                  · intro w'
                                    go_simp
                                    with_reducible rfl
                                  rotate_left
                                  · simp only [Act.put, List.setIfInBounds_toArray, List.set_cons_zero, List.set_cons_succ, i64_w, i32_w]
                                    rfl
                                  refine pure_ (i := 22) (N := some 99) (v := ?_) (a' := ?_) #[true, true, true, true, true, true, true, true, true, true, true, true, true, true, true, true, true, true, true, true, true, false, true, false, false, false, false, false, false, false] rfl rfl (any_of HT_.out (by kernel_rfl)) (fun _ _ _ h => h) (Or.inl ⟨by rfl, ?_⟩) ?_ ?_
                                  rotate_left
                                  · intro w'
                                    go_simp
                                    with_reducible rfl
                                  rotate_left
                                  · simp only [Act.put, List.setIfInBounds_toArray, List.set_cons_zero, List.set_cons_succ, i64_w, i32_w]
                                    rfl
                                  refine pure_ (i := 23) (N := some 100) (v := ?_) (a' := ?_) #[true, true, true, true, true, true, true, true, true, true, true, true, true, true, true, true, true, true, true, true, true, false, true, true, false, false, false, false, false, false] rfl rfl (any_of HT_.out (by kernel_rfl)) (fun _ _ _ h => h) (Or.inl ⟨by rfl, ?_⟩) ?_ ?_
                                  rotate_left
                                  · intro w'
                                    go_simp
                                    with_reducible rfl
                                  rotate_left
                                  · simp only [Act.put, List.setIfInBounds_toArray, List.set_cons_zero, List.set_cons_succ, i64_w, i32_w]
                                    rfl
                                  refine pure_ (i := 24) (N := some 101) (v := ?_) (a' := ?_) #[true, true, true, true, true, true, true, true, true, true, true, true, true, true, true, true, true, true, true, true, true, false, true, true, true, false, false, false, false, false] rfl rfl (any_of HT_.out (by kernel_rfl)) (fun _ _ _ h => h) (Or.inl ⟨by rfl, ?_⟩) ?_ ?_
                                  rotate_left
                                  · intro w'
                                    go_simp
                                    with_reducible rfl
                                  rotate_left
                                  · simp only [Act.put, List.setIfInBounds_toArray, List.set_cons_zero, List.set_cons_succ, i64_w, i32_w]
                                    rfl
                                  refine pure_ (i := 25) (N := some 102) (v := ?_) (a' := ?_) #[true, true, true, true, true, true, true, true, true, true, true, true, true, true, true, true, true, true, true, true, true, false, true, true, true, true, false, false, false, false] rfl rfl (any_of HT_.out (by kernel_rfl)) (fun _ _ _ h => h) (Or.inl ⟨by rfl, ?_⟩) ?_ ?_
                                  rotate_left
                                  · intro w'
                                    go_simp
                                    with_reducible rfl
                                  rotate_left
                                  · simp only [Act.put, List.setIfInBounds_toArray, List.set_cons_zero, List.set_cons_succ, i64_w, i32_w]
                                    rfl
                                  refine pure_ (i := 26) (N := some 103) (v := ?_) (a' := ?_) #[true, true, true, true, true, true, true, true, true, true, true, true, true, true, true, true, true, true, true, true, true, false, true, true, true, true, true, false, false, false] rfl rfl (any_of HT_.out (by kernel_rfl)) (fun _ _ _ h => h) (Or.inl ⟨by rfl, ?_⟩) ?_ ?_
                                  rotate_left
                                  · intro w'
                                    go_simp
                                    with_reducible rfl
                                  rotate_left
                                  · simp only [Act.put, List.setIfInBounds_toArray, List.set_cons_zero, List.set_cons_succ, i64_w, i32_w]
                                    rfl
                                  refine take_ (i := 27) (N := some 104) (v := ?_) (a' := ?_) #[true, true, true, true, true, true, true, true, true, true, true, true, true, true, true, true, true, true, true, true, true, false, true, true, true, true, true, true, false, false] rfl rfl (take_ofW HT_.out HW_.out (by kernel_rfl)) (fun _ _ _ h => h) (Or.inl ⟨by rfl, ?_⟩) hHeld ?_ ?_
                                  rotate_left
                                  · rintro w' ⟨s0, s1, s2⟩
                                    go_simp
                                    with_reducible rfl
                                  rotate_left
                                  · simp only [Act.put, List.setIfInBounds_toArray, List.set_cons_zero, List.set_cons_succ, i64_w, i32_w]
                                    rfl
                                  refine one_ (i := 21) (N := some 98) #[true, true, true, true, true, true, true, true, true, true, true, true, true, true, true, true, true, true, true, true, true, true, true, true, true, true, true, true, false, false] rfl rfl (one_of HT_.out (by kernel_rfl)) (by decide) (fun K hK => ?_)
                                  refine goes_ Tryz.func46 (by kernel_rfl) rfl #[.slice (some ad333) y335.length co67] (by rfl) rfl rfl (by (try simp only [List.map_toArray, List.map_cons, List.map_nil]); first | done | rfl | (simp only [List.length_drop, List.length_take]; rfl)) ?_
                                  with_reducible refine (spec_OD128Check.calls kj39 _ _ y335 t339 _ ?side1 ?side2 A58.out).mono ?_
                                  (case side1 => repeat (first | exact (by repeat (first | (with_reducible exact HR338.out) | (with_reducible refine Kd.C_alloc ?_ _) | (with_reducible refine Kd.C_drewN ?_ _) | (with_reducible refine Kd.C_drew ?_) | exact HR338.out)) | (with_reducible refine Kd.C_alloc ?_ _) | (with_reducible refine Kd.C_drewN ?_ _) | (with_reducible refine Kd.C_drew ?_)))
                                  (case side2 => exact HC338.out)
                                  rintro e w' ⟨rfl, ⟨nd, rfl⟩⟩
                                  refine ⟨_, rfl, ?_⟩
                                  refine hK.out _ _ ⟨hHeld.1, hHeld.2.1, hHeld.2.2⟩ (fun hHeld => ?_)
                                  clear hK K
                                  refine norm_ (a' := ?_) ?_ ?_
                                  rotate_left
                                  · show Act.put _ (some 98) _ = _
                                    simp only [Act.put, List.setIfInBounds_toArray, List.set_cons_zero, List.set_cons_succ, i64_w, i32_w]
                                    rfl
                                  refine pure_ (i := 28) (N := some 105) (v := ?_) (a' := ?_) #[true, true, true, true, true, true, true, true, true, true, true, true, true, true, true, true, true, true, true, true, true, true, true, true, true, true, true, true, true, false] rfl rfl (any_of HT_.out (by kernel_rfl)) (fun _ _ _ h => h) (Or.inl ⟨by rfl, ?_⟩) ?_ ?_
                                  rotate_left
                                  · intro w'
                                    go_simp
                                    with_reducible rfl
                                  rotate_left
                                  · simp only [Act.put, List.setIfInBounds_toArray, List.set_cons_zero, List.set_cons_succ, i64_w, i32_w]
                                    rfl
                                  refine pure_ (i := 29) (N := some 106) (v := ?_) (a' := ?_) #[true, true, true, true, true, true, true, true, true, true, true, true, true, true, true, true, true, true, true, true, true, true, true, true, true, true, true, true, true, true] rfl rfl (any_of HT_.out (by kernel_rfl)) (fun _ _ _ h => h) (Or.inl ⟨by rfl, ?_⟩) ?_ ?_
                                  rotate_left
                                  · intro w'
                                    go_simp
                                    with_reducible rfl
                                  rotate_left
                                  · simp only [Act.put, List.setIfInBounds_toArray, List.set_cons_zero, List.set_cons_succ, i64_w, i32_w]
                                    rfl
                                  refine done_ (done_of HT_.out (by kernel_rfl)) ?_
                                  try go_wp2
                                  go_ret2
                                  exact ⟨_, by first | rfl | (simp [errW_none, errW_some] <;> rfl) | (simp only [← hji55]; first | rfl | (simp [errW_none, errW_some] <;> rfl)) | (simp [*, errW_none, errW_some] <;> rfl), by first | exact Kd.R_nil _ _ _ _ _ | exact Kd.N_nil _ _ _ _ _ | exact Kd.V_nil _ _ _ _ _ | exact Kd.Q_nil _ _ _ _ _ | exact Kd.S_nil _ _ _ _ _, by repeat (first | (with_reducible first | exact HB.out | apply below_alloc | apply pw_below_drewN | apply below_drew1) | exact HB.out)⟩
                              · rw [if_neg c59] at H
                                exact absurd H (by simp)
                            · rw [if_neg c57] at H
                              exact absurd H (by simp)
                          · rw [if_neg c56] at H
                            exact absurd H (by simp)
                    · rw [if_neg c48] at H
                      exact absurd H (by simp)
                · rw [if_neg c44] at H
                  have c44b0 : (x6_1 == 106) = false := beq_eq_false_iff_ne.mpr c44
                  have c44b1 : (x6_1 != 106) = true := bne_iff_ne.mpr c44
                  by_cases c69 : x4_1.length < 17592186044416
                  · rw [if_pos c69] at H
                    have LMc69 := Aside0.mk c69
                    clear c69
                    obtain ⟨y344, hy344⟩ : ∃ y_ : List Int, y_ = (x4_1 ++ [x6_1]) := ⟨_, rfl⟩
                    replace H : (spec_OD128Values.l0 kj39 l0 y344 x5_1) = some (r1, r2) := by first | (rw [hy344]; with_reducible exact H) | (have H2_ := (Option.bind_some _ _).symm.trans H; rw [hy344]; with_reducible exact H2_) | (have H2_ := (Option.bind_some _ _).symm.trans H; with_reducible exact H2_) | with_reducible exact H | (rw [hy344]; exact H) | exact H
                    have Ny344 := Aside0.mk hy344
                    clear hy344
                    have H' := Aside0.mk H
                    clear H
                    go_wp2_with (first | ((with_reducible refine gate_builtin (b := .append) (xs := #[.tmp 73, .tmp 75]) rfl ?_); (try (refine gate_guard (by rfl) ?_; dsimp only)); at_builtin; refine Kd.R_append (Kd.int .i64) (w0 := w) w.heap.size rfl (.tmp 73) (.tmp 75) 40 3 (.int .i64 0) 8 rfl Tryz.underlying40 info3 rfl (by decide) (by omega) u4 x4_1 x6_1 [.int .i64 x6_1] (fun _ => True) (fun _ => False) rfl rfl ?aP (fun _ hk => hk.elim) ?aF ?aO ?aB ?aS ?aL ?_; (case aP => exact rfl); (case aB => exact (by repeat (first | (with_reducible first | exact HB.out | apply below_alloc | apply pw_below_drewN | apply below_drew1) | exact HB.out))); (case aF => exact (fun _ _ => trivial)); (case aO => exact (by (with_reducible repeat (first | apply Kd.R_alloc | apply Kd.R_drewN | apply Kd.R_drew)); exact HO_4.out)); (case aS => exact (below_size (by repeat (first | (with_reducible first | exact HB.out | apply below_alloc | apply pw_below_drewN | apply below_drew1) | exact HB.out)))); (case aL => have := LMc69.out; omega); intro v345 w70 ho hb hg hat; rw [← Ny344.out] at ho; have n0_ := Aside0.mk (hb); have n1_ := Aside0.mk (ho); clear HB; clear HO_4; have HB := n0_; have HO346 := n1_; clear n0_ n1_; clear ho hb hg hat))
                    go_roundg kj39
                    case measure => have := HK1.out; have := HJ1.out; have := HJ39.out; omega
                    case rel => exact ⟨(y344), (x5_1), (by first | rfl | (simp; done) | (simp [*]; done)), H', ⟨by have := HK1.out; have := HJ1.out; have := HJ39.out; omega⟩, ⟨by (with_reducible repeat (first | apply Kd.R_alloc | apply Kd.R_drewN | apply Kd.R_drew)); exact HO346.out⟩, ⟨by repeat (first | (with_reducible first | exact HB.out | apply below_alloc | apply pw_below_drewN | apply below_drew1) | exact HB.out)⟩⟩
                  · rw [if_neg c69] at H
                    exact absurd H (by simp)
end Go.Proofs.YthkddnmomjcdaaaGreat.F
namespace Go.Proofs.YthkddnmomjcdaaaGreat.B
open Go.RowKit Go.Proofs.YthkddnmomjcdaaaGreatW.PrintWords Go.Proofs.YthkddnmomjcdaaaGreatW.PrintLast Go.Proofs.YthkddnmomjcdaaaGreatW.PrintMore
set_option linter.unusedVariables false
set_option linter.unusedSimpArgs false

/-! ### The reference's bars -/
theorem bars_append (l m : List Int) (c : Bool) : bars c (l ++ m) = bars c l ++ bars (if l.length % 2 = 0 then c else !c) m := by
  induction l generalizing c with
  | nil => simp [bars]
  | cons a l ih =>
    simp only [List.cons_append, bars, ih, List.append_assoc, List.length_cons]
    congr 3
    by_cases h : l.length % 2 = 0
    · rw [if_pos h, if_neg (by omega)]
    · rw [if_neg h, if_pos (by omega)]; simp
theorem bars_even (l m : List Int) (h : l.length % 2 = 0) (c : Bool) : bars c (l ++ m) = bars c l ++ bars c m := by rw [bars_append, if_pos h]

theorem odBars_run (ps : List Int) (hp : ∀ p ∈ ps, 0 ≤ p ∧ p ≤ 1000) (hl : ps.length ≤ 1000000) :
    ∀ (qs done : List Int) (ys : List Bool), ps = done ++ qs → (ys.length : Int) + 1000 * qs.length ≤ 100000000000 → Ev (fun k => F.spec_ODBars.l0 k ps ys done.length) (ys ++ bars (done.length % 2 == 0) qs) := by
  intro qs
  induction qs with
  | nil =>
    intro done ys he hy
    refine Ev.step (f := fun _ => some ys) (fun k => ?_) ?_
    · rw [F.spec_ODBars.l0, if_neg (by rw [he]; simp)]
    · simpa [bars] using Ev.now ys
  | cons q qs ih =>
    intro done ys he hy
    have hq := hp q (by rw [he]; simp)
    have hlt : (done.length : Int) < ps.length := by rw [he]; simp; omega
    have hrd : rd ps done.length = q := by simp [rd, he]
    have hmod : (Int.tmod (done.length : Int) 2 == 0) = (done.length % 2 == 0) := by
      rw [Int.tmod_eq_emod_of_nonneg (by omega)]
      rw [Bool.eq_iff_iff, beq_iff_eq, beq_iff_eq]
      omega
    simp only [List.length_cons] at hy
    refine Ev.step (f := fun k => F.spec_ODBars.l1 k ps ys done.length 0) (fun k => ?_) ?_
    · rw [F.spec_ODBars.l0, if_pos hlt]
    · suffices H : ∀ (d : Nat) (j : Int) (zs : List Bool), 0 ≤ j → q - j = d → (zs.length : Int) + d + 1000 * qs.length ≤ 100000000000 → zs ++ List.replicate d (done.length % 2 == 0) = ys ++ List.replicate q.toNat (done.length % 2 == 0) → Ev (fun k => F.spec_ODBars.l1 k ps zs done.length j) (ys ++ bars (done.length % 2 == 0) (q :: qs)) from
        H q.toNat 0 ys (by omega) (by omega) (by omega) rfl
      intro d
      induction d with
      | zero =>
        intro j zs h0 hd hz hzz
        have h1 := ih (done ++ [q]) zs (by simp [he]) (by omega)
        refine Ev.step (f := fun k => F.spec_ODBars.l0 k ps zs ((done ++ [q]).length : Nat)) (fun k => ?_) ?_
        · rw [F.spec_ODBars.l1, if_pos (by omega), if_pos hlt, hrd, if_neg (by omega), show wrap64 ((done.length : Int) + 1) = ((done ++ [q]).length : Nat) by simp; unfold wrap64; omega]
        · simp only [List.replicate_zero, List.append_nil] at hzz
          rw [hzz] at h1
          have e : ((done ++ [q]).length % 2 == 0) = !(done.length % 2 == 0) := by
            rw [List.length_append, List.length_singleton]
            rcases Nat.mod_two_eq_zero_or_one done.length with h | h
            · rw [h, show (done.length + 1) % 2 = 1 by omega]; rfl
            · rw [h, show (done.length + 1) % 2 = 0 by omega]; rfl
          rw [e] at h1
          rw [hzz]
          simpa [bars] using h1
      | succ d ihd =>
        intro j zs h0 hd hz hzz
        refine Ev.step (f := fun k => F.spec_ODBars.l1 k ps (zs ++ [done.length % 2 == 0]) done.length (j + 1)) (fun k => ?_) ?_
        · rw [F.spec_ODBars.l1, if_pos (by omega), if_pos hlt, hrd, if_pos (by omega), if_pos (by omega), hmod, show wrap64 (j + 1) = j + 1 by unfold wrap64; omega]
        · exact ihd (j + 1) _ (by omega) (by omega) (by simp; omega) (by rw [← hzz]; simp [List.replicate_succ])

theorem odBars (ps : List Int) (hp : ∀ p ∈ ps, 0 ≤ p ∧ p ≤ 1000) (hl : ps.length ≤ 1000000) : Ev (fun k => F.spec_ODBars.f k ps) (bars true ps) := odBars_run ps hp hl ps [] [] rfl (by simp; omega)

/-! ### Code 128: the values of a row -/
def tail128 (k : Nat) (x0 : List Bool) (x4 : List Int) (x5 x6 x7 : Int) (t328 : List Bool) : Option (List Int × Bool) := (if (wrap64 (x5 + (t328.length : Int))) ≤ (x0.length : Int) then (if 0 ≤ x5 then (if x5 ≤ (wrap64 (x5 + (t328.length : Int))) then ((F.spec_BISameBits.f k ((x0.take ((wrap64 (x5 + (t328.length : Int))) : Int).toNat).drop (x5 : Int).toNat) t328).bind fun t332 => (if t332 = true then (if x7 < 106 then (F.spec_OD128Values.j3 k x0 x4 (wrap64 (x5 + (t328.length : Int))) x7) else (if (wrap64 (x5 + (t328.length : Int))) = (x0.length : Int) then (F.spec_OD128Values.j3 k x0 x4 (wrap64 (x5 + (t328.length : Int))) x7) else (F.spec_OD128Values.l1 k x0 x4 x5 x6 (wrap64 (x7 + 1))))) else (F.spec_OD128Values.l1 k x0 x4 x5 x6 (wrap64 (x7 + 1))))) else (none)) else (none)) else (F.spec_OD128Values.l1 k x0 x4 x5 x6 (wrap64 (x7 + 1))))
theorem w64v (x : Int) (h0 : -100000 ≤ x) (h1 : x ≤ 1000000000) : wrap64 x = x := by unfold wrap64; omega
theorem diffBits (xs ys : List Bool) (hl : xs.length = ys.length) (hm : xs.length ≤ 1000000) (hne : xs ≠ ys) : Ev (fun k => F.spec_BISameBits.f k xs ys) false := by
  have H : ∀ (d i : Nat), i + d = xs.length → xs.take i = ys.take i → Ev (fun k => F.spec_BISameBits.l0 k xs ys i) false := by
    intro d
    induction d with
    | zero =>
      intro i hd he
      rw [List.take_of_length_le (by omega), List.take_of_length_le (by omega)] at he
      exact absurd he hne
    | succ d ih =>
      intro i hd he
      have hi : i < xs.length := by omega
      have hj : i < ys.length := by omega
      have hx : rdOf false xs (i : Int) = xs[i] := by unfold rdOf; rw [Int.toNat_natCast, List.getD_eq_getElem?_getD, List.getElem?_eq_getElem hi]; rfl
      have hy : rdOf false ys (i : Int) = ys[i] := by unfold rdOf; rw [Int.toNat_natCast, List.getD_eq_getElem?_getD, List.getElem?_eq_getElem hj]; rfl
      by_cases h : xs[i] = ys[i]
      · refine Ev.step (fun k => ?_) (ih (i + 1) (by omega) (by rw [List.take_succ_eq_append_getElem hi, List.take_succ_eq_append_getElem hj, he, h]))
        rw [F.spec_BISameBits.l0, if_pos (by omega), if_pos (by omega), if_pos (by omega), hx, hy, h, if_neg (by simp), w64v _ (by omega) (by omega)]
        rfl
      · refine Ev.step (f := fun _ => some false) (fun k => ?_) (Ev.now false)
        rw [F.spec_BISameBits.l0, if_pos (by omega), if_pos (by omega), if_pos (by omega), hx, hy, if_pos (by simpa using h)]
  refine Ev.congr (fun k => ?_) (H xs.length 0 (by omega) rfl)
  unfold F.spec_BISameBits.f
  rw [if_pos (by omega)]
  rfl
theorem l2_dig (row : List Bool) (vs : List Int) (at_ best n : Int) (r : List Int × Bool) :
    ∀ (f : Nat) (x : Int) (a : List Int), 0 ≤ x → x < 10 ^ f → f ≤ 10 → x ≤ 1000000000 → a.length + f ≤ 1000 → Ev (fun k => (F.spec_ODBars.f k (dig f x a)).bind fun t => tail128 k row vs at_ best n t) r → Ev (fun k => F.spec_OD128Values.l2 k row vs at_ best n x a) r := by
  intro f
  induction f with
  | zero =>
    intro x a h0 h1 hf hx hl h
    have : x = 0 := by have : (10 : Int) ^ 0 = 1 := rfl; omega
    subst this
    refine Ev.step (fun k => ?_) h
    rw [F.spec_OD128Values.l2, if_neg (by omega)]
    rfl
  | succ f ih =>
    intro x a h0 h1 hf hx hl h
    by_cases hp : x > 0
    · rw [dig, if_pos hp] at h
      refine Ev.step (fun k => ?_) (ih (x / 10) (x % 10 :: a) (by omega) (by have : (10 : Int) ^ (f + 1) = 10 ^ f * 10 := rfl; omega) (by omega) (by omega) (by simp; omega) h)
      rw [F.spec_OD128Values.l2, if_pos hp, Option.bind_some, if_pos (by simp; omega), Int.tdiv_eq_ediv_of_nonneg h0, Int.tmod_eq_emod_of_nonneg h0, w64v _ (by omega) (by omega)]
      rfl
    · rw [dig, if_neg hp] at h
      refine Ev.step (fun k => ?_) h
      rw [F.spec_OD128Values.l2, if_neg hp]
      rfl
/-- A candidate is tried: its modules against the row's. -/
theorem try128 (row : List Bool) (vs : List Int) (at_ best : Int) (n : Nat) (hn : n < 107) (r : List Int × Bool) (h : Ev (fun k => tail128 k row vs at_ best n (mods n)) r) : Ev (fun k => F.spec_OD128Values.l1 k row vs at_ best n) r := by
  obtain ⟨h1, h2, h3⟩ := dig128 n hn
  have hb : Ev (fun k => F.spec_ODBars.f k (pat128 n)) (mods n) := odBars (pat128 n) (fun p hp => by have := pat_rng n (by omega) p hp; omega) (by
    rcases Nat.lt_or_ge n 106 with h | h
    · rw [pat_len n (by omega)]; omega
    · obtain rfl : n = 106 := by omega
      exact Nat.le_trans (Nat.le_of_eq pat_106) (by omega))
  refine Ev.step (f := fun k => F.spec_OD128Values.l2 k row vs at_ best n (w128.getD n 0) []) (fun k => ?_) ?_
  · rw [F.spec_OD128Values.l1, if_pos (by omega), show F.spec_od128Widths.f (n : Int) = some (w128.getD n 0) from by unfold F.spec_od128Widths.f; rw [if_pos (by omega), Int.toNat_natCast]]
    rfl
  · refine l2_dig row vs at_ best n r 8 _ [] h2 (by have : (10 : Int) ^ 8 = 100000000 := rfl; omega) (by omega) (by omega) (by simp) ?_
    rw [h1]
    exact Ev.bind hb h
/-- The row from at_ on begins with v's modules: the candidates ahead of v are passed over, v is taken. -/
theorem scan128 (row : List Bool) (vs : List Int) (pre more : List Bool) (v : Int) (hrow : row = pre ++ (mods v ++ more)) (hv : 0 ≤ v ∧ v ≤ 106) (hm : v = 106 → more = []) (hl : row.length ≤ 1000000) (r : List Int × Bool)
    (h : Ev (fun k => F.spec_OD128Values.j3 k row vs ((pre ++ mods v).length : Nat) v) r) : ∀ (d n : Nat), (n : Int) + d = v → Ev (fun k => F.spec_OD128Values.l1 k row vs (pre.length : Nat) (-1) n) r := by
  have hlen : row.length = pre.length + ((mods v).length + more.length) := by rw [hrow, List.length_append, List.length_append]
  have hv11 : 11 ≤ (mods v).length := by
    rcases Int.lt_or_le v 106 with h | h
    · rw [mods_len v (by omega)]; omega
    · obtain rfl : v = 106 := by omega
      rw [mods_106]; omega
  intro d
  induction d with
  | zero =>
    intro n hn
    obtain rfl : v = (n : Int) := by omega
    refine try128 row vs _ _ n (by omega) r ?_
    have hw : wrap64 ((pre.length : Int) + ((mods (n : Int)).length : Int)) = ((pre ++ mods (n : Int)).length : Nat) := by rw [List.length_append, w64v _ (by omega) (by omega)]; omega
    have hcut : (row.take (pre ++ mods (n : Int)).length).drop pre.length = mods (n : Int) := by
      rw [hrow, ← List.append_assoc, List.take_left, List.drop_left]
    have hpl : (pre ++ mods (n : Int)).length = pre.length + (mods (n : Int)).length := List.length_append
    refine Ev.congr (f := fun k => (F.spec_BISameBits.f k (mods (n : Int)) (mods (n : Int))).bind fun t332 => (if t332 = true then (if (n : Int) < 106 then (F.spec_OD128Values.j3 k row vs ((pre ++ mods (n : Int)).length : Nat) n) else (if (((pre ++ mods (n : Int)).length : Nat) : Int) = (row.length : Int) then (F.spec_OD128Values.j3 k row vs ((pre ++ mods (n : Int)).length : Nat) n) else (F.spec_OD128Values.l1 k row vs (pre.length : Nat) (-1) (wrap64 ((n : Int) + 1))))) else (F.spec_OD128Values.l1 k row vs (pre.length : Nat) (-1) (wrap64 ((n : Int) + 1))))) (fun k => ?_) ?_
    · unfold tail128
      rw [hw, if_pos (by omega), if_pos (by omega), if_pos (by omega), Int.toNat_natCast, Int.toNat_natCast, hcut]
    · refine Ev.bind (sameBits (mods (n : Int)) (by omega)) ?_
      refine Ev.congr (fun k => ?_) h
      rw [if_pos rfl]
      by_cases h6 : (n : Int) < 106
      · rw [if_pos h6]
      · rw [if_neg h6, if_pos]
        rw [hlen, hm (by omega), List.length_append, List.length_nil, Nat.add_zero]
  | succ d ih =>
    intro n hn
    have hnv : (n : Int) < v := by omega
    have hnext := ih (n + 1) (by omega)
    refine try128 row vs _ _ n (by omega) r ?_
    have hnl : (mods (n : Int)).length = 11 := mods_len n (by omega)
    have hw : wrap64 ((pre.length : Int) + ((mods (n : Int)).length : Int)) = ((pre.length + 11 : Nat) : Int) := by rw [hnl, w64v _ (by omega) (by omega)]; omega
    have hw1 : wrap64 ((n : Int) + 1) = ((n + 1 : Nat) : Int) := by rw [w64v _ (by omega) (by omega)]; omega
    have hcut : (row.take (pre.length + 11)).drop pre.length = (mods v).take 11 := by
      rw [hrow, List.take_append, List.take_of_length_le (by omega), List.drop_left, show pre.length + 11 - pre.length = 11 by omega, List.take_append_of_le_length hv11]
    have hne := mods_apart v n (by omega) hnv (by omega)
    have hl11 : ((mods v).take 11).length = 11 := by rw [List.length_take]; omega
    refine Ev.congr (f := fun k => (F.spec_BISameBits.f k ((mods v).take 11) (mods (n : Int))).bind fun t332 => (if t332 = true then (if (n : Int) < 106 then (F.spec_OD128Values.j3 k row vs ((pre.length + 11 : Nat) : Int) n) else (if ((pre.length + 11 : Nat) : Int) = (row.length : Int) then (F.spec_OD128Values.j3 k row vs ((pre.length + 11 : Nat) : Int) n) else (F.spec_OD128Values.l1 k row vs (pre.length : Nat) (-1) (wrap64 ((n : Int) + 1))))) else (F.spec_OD128Values.l1 k row vs (pre.length : Nat) (-1) (wrap64 ((n : Int) + 1))))) (fun k => ?_) ?_
    · unfold tail128
      rw [hw, if_pos (by omega), if_pos (by omega), if_pos (by omega), Int.toNat_natCast, Int.toNat_natCast, hcut]
    · refine Ev.bind (diffBits _ _ (by rw [hl11, hnl]) (by omega) hne) ?_
      refine Ev.congr (fun k => ?_) hnext
      rw [if_neg (by simp), hw1]
theorem check128 (vs : List Int) (h0 : 0 < vs.length) (hl : vs.length ≤ 1000) (hr : ∀ v ∈ vs, 0 ≤ v ∧ v ≤ 105) : Ev (fun k => F.spec_OD128Check.f k vs) (chk128 vs) := by
  have H : ∀ (d k : Nat), k + d = vs.length - 1 → Ev (fun f => F.spec_OD128Check.l0 f vs (wsum vs k) ((k + 1 : Nat) : Int)) (chk128 vs) := by
    intro d
    induction d with
    | zero =>
      intro k hk
      have hb := wsum_bound vs hr hl k (by omega)
      refine Ev.step (f := fun _ => some (chk128 vs)) (fun f => ?_) (Ev.now _)
      rw [F.spec_OD128Check.l0, if_neg (by omega), Int.tmod_eq_emod_of_nonneg hb.1]
      unfold chk128
      rw [show k = vs.length - 1 by omega]
    | succ d ih =>
      intro k hk
      have hb := wsum_bound vs hr hl (k + 1) (by omega)
      have hb0 := wsum_bound vs hr hl k (by omega)
      refine Ev.step (fun f => ?_) (ih (k + 1) (by omega))
      rw [wsum] at hb
      have h3 : 0 ≤ ((k + 1 : Nat) : Int) * rd vs ((k + 1 : Nat) : Int) := Int.mul_nonneg (by omega) (rd_rng vs hr _).1
      rw [F.spec_OD128Check.l0, if_pos (by omega), if_pos (by omega), w64v (((k + 1 : Nat) : Int) * rd vs ((k + 1 : Nat) : Int)) (by omega) (by omega), w64v _ (by omega) (by omega), w64v _ (by omega) (by omega), wsum]
      rfl
  refine Ev.congr (fun k => ?_) (H (vs.length - 1) 0 (by omega))
  rw [F.spec_OD128Check.f, if_pos (by omega)]
  rfl
theorem values_run (vs : List Int) (row : List Bool) (hvs : ∀ v ∈ vs, 0 ≤ v ∧ v ≤ 105) (hl : vs.length ≤ 150) (h2 : 2 ≤ vs.length) (hs : 103 ≤ rd vs 0) (hrow : row = code128 (vs ++ [chk128 vs] ++ [106])) :
    ∀ (d k : Nat) (done rest : List Int), k + d = vs.length + 1 → vs ++ [chk128 vs] = done ++ rest → done.length = k → Ev (fun f => F.spec_OD128Values.l0 f row done ((code128 done).length : Nat)) (vs, true) := by
  have hvc : ∀ v ∈ vs ++ [chk128 vs], 0 ≤ v ∧ v ≤ 105 := by
    intro v hv
    rcases List.mem_append.1 hv with h | h
    · exact hvs v h
    · obtain rfl := List.mem_singleton.1 h
      have := chk_rng vs; omega
  have hrl : row.length = 11 * (vs.length + 1) + 13 := by
    rw [hrow, code128_append, List.length_append, code128_len _ hvc, code128_one, mods_106, List.length_append]; rfl
  intro d
  induction d with
  | zero =>
    intro k done rest hk he hd
    have hr0 : rest = [] := by
      have := congrArg List.length he
      rw [List.length_append, List.length_append, List.length_singleton] at this
      exact List.eq_nil_of_length_eq_zero (by omega)
    subst hr0
    rw [List.append_nil] at he
    subst he
    refine Ev.step (f := fun f => F.spec_OD128Values.l1 f row (vs ++ [chk128 vs]) ((code128 (vs ++ [chk128 vs])).length : Nat) (-1) ((0 : Nat) : Int)) (fun f => ?_) ?_
    · rw [F.spec_OD128Values.l0]; rfl
    refine scan128 row _ (code128 (vs ++ [chk128 vs])) [] 106 (by rw [hrow, code128_append, code128_one, List.append_nil]) (by omega) (fun _ => rfl) (by omega) _ ?_ 106 0 (by omega)
    have hlc : ((vs ++ [chk128 vs]).length : Int) = (vs.length : Int) + 1 := by rw [List.length_append]; rfl
    refine Ev.step (f := fun f => F.spec_OD128Values.j4 f row (vs ++ [chk128 vs]) ((code128 (vs ++ [chk128 vs]) ++ mods 106).length : Nat) 106 false) (fun f => ?_) ?_
    · rw [F.spec_OD128Values.j3, if_neg (by omega), show decide (((vs ++ [chk128 vs]).length : Int) > 200) = false from decide_eq_false (by omega)]
    have h0 : rd (vs ++ [chk128 vs]) 0 = rd vs 0 := by
      unfold rd
      rw [show (0 : Int).toNat = 0 from rfl, List.getD_eq_getElem?_getD, List.getElem?_append_left (by omega), List.getD_eq_getElem?_getD]
    have hlast : rd (vs ++ [chk128 vs]) (vs.length : Int) = chk128 vs := by
      unfold rd
      rw [Int.toNat_natCast, List.getD_eq_getElem?_getD, List.getElem?_append_right (Nat.le_refl _), Nat.sub_self]; rfl
    have hr0 : rd vs 0 ≤ 105 := by
      unfold rd
      rw [show (0 : Int).toNat = 0 from rfl, List.getD_eq_getElem?_getD, List.getElem?_eq_getElem (show 0 < vs.length by omega)]
      exact (hvs _ (List.getElem_mem _)).2
    refine Ev.step (f := fun f => (F.spec_OD128Check.f f vs).bind fun t339 => if t339 = chk128 vs then some (vs, true) else some (([] : List Int), false)) (fun f => ?_) ?_
    · rw [F.spec_OD128Values.j4, if_neg (by simp), if_pos rfl, if_neg (by omega), if_pos (by omega), h0, if_neg (by omega), if_neg (by omega), hlc, w64v _ (by omega) (by omega), if_pos (by omega), if_pos (by omega),
        show ((vs.length : Int) + 1 - 1) = (vs.length : Int) by omega, Int.toNat_natCast, List.take_left, hlast]
      simp only [show (vs.length : Int) < (vs.length : Int) + 1 from by omega, if_true]
    · refine Ev.bind (check128 vs (by omega) (by omega) hvs) ?_
      simp only [if_true]
      exact Ev.now _
  | succ d ih =>
    intro k done rest hk he hd
    obtain ⟨v, rest', rfl⟩ : ∃ v r, rest = v :: r := by
      cases rest with
      | nil =>
        have := congrArg List.length he
        rw [List.length_append, List.length_append, List.length_singleton, List.length_nil] at this
        omega
      | cons v r => exact ⟨v, r, rfl⟩
    have hv : 0 ≤ v ∧ v ≤ 105 := hvc v (by rw [he]; simp)
    have hnext := ih (k + 1) (done ++ [v]) rest' (by omega) (by rw [he, List.append_assoc]; rfl) (by simp [hd])
    refine Ev.step (f := fun f => F.spec_OD128Values.l1 f row done ((code128 done).length : Nat) (-1) ((0 : Nat) : Int)) (fun f => ?_) ?_
    · rw [F.spec_OD128Values.l0]; rfl
    refine scan128 row _ (code128 done) (code128 (rest' ++ [106])) v (by rw [hrow, he, List.append_assoc, code128_append]; rfl) (by omega) (fun h => by omega) (by omega) _ ?_ v.toNat 0 (by omega)
    refine Ev.step (f := fun f => F.spec_OD128Values.j4 f row done ((code128 done ++ mods v).length : Nat) v false) (fun f => ?_) ?_
    · rw [F.spec_OD128Values.j3, if_neg (by omega), show decide ((done.length : Int) > 200) = false from decide_eq_false (by omega)]
    · rw [code128_append, code128_one] at hnext
      refine Ev.step (fun f => ?_) hnext
      rw [F.spec_OD128Values.j4, if_neg (by simp), if_neg (by omega), if_pos (by omega)]
theorem values128 (vs : List Int) (hvs : ∀ v ∈ vs, 0 ≤ v ∧ v ≤ 105) (hl : vs.length ≤ 150) (h2 : 2 ≤ vs.length) (hs : 103 ≤ rd vs 0) : Ev (fun f => F.spec_OD128Values.f f (code128 (vs ++ [chk128 vs] ++ [106]))) (vs, true) :=
  values_run vs _ hvs hl h2 hs rfl (vs.length + 1) 0 [] _ (by omega) rfl rfl
end Go.Proofs.YthkddnmomjcdaaaGreat.B
