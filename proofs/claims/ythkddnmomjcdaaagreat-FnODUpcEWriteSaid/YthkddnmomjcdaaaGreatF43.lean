import Derived.Test.YthkddnmomjcdaaaGreatF0
namespace Go.Proofs.YthkddnmomjcdaaaGreat.F
open Go.RowKit Go.Proofs.YthkddnmomjcdaaaGreatW.PrintWords Go.Proofs.YthkddnmomjcdaaaGreatW.PrintLast Go.Proofs.YthkddnmomjcdaaaGreatW.PrintMore
attribute [local go_sem] max2_int min2_int max_two min_two max_three min_three max_four min_four   -- for this text's walks alone
set_option linter.unusedVariables false
set_option linter.unusedSimpArgs false

/-! ### spec_ODTrimmed: function 43 -/
mutual
def spec_ODTrimmed.j1 : Nat → List Bool → Option (List Bool)
  | 0, _ => none
  | k + 1, x0 => spec_ODTrimmed.l1 k x0
def spec_ODTrimmed.l1 : Nat → List Bool → Option (List Bool)
  | 0, _ => none
  | k + 1, x0 => if (x0.length : Int) > 0 then (if 0 ≤ (wrap64 ((x0.length : Int) - 1)) then (if (wrap64 ((x0.length : Int) - 1)) < (x0.length : Int) then (if (rdOf false x0 (wrap64 ((x0.length : Int) - 1)) = true) then (some x0) else (if (wrap64 ((x0.length : Int) - 1)) ≤ (x0.length : Int) then (spec_ODTrimmed.l1 k (x0.take ((wrap64 ((x0.length : Int) - 1)) : Int).toNat)) else (none))) else (none)) else (none)) else (some x0)
def spec_ODTrimmed.l0 : Nat → List Bool → Option (List Bool)
  | 0, _ => none
  | k + 1, x0 => if (x0.length : Int) > 0 then (if 0 < (x0.length : Int) then (if rdOf false x0 0 = true then (spec_ODTrimmed.j1 k x0) else (if 1 ≤ (x0.length : Int) then (spec_ODTrimmed.l0 k (x0.drop 1)) else (none))) else (none)) else (spec_ODTrimmed.j1 k x0)
end
def spec_ODTrimmed.f (k : Nat) (l0 : List Bool) : Option (List Bool) := spec_ODTrimmed.l0 k l0
theorem spec_ODTrimmed.mono_l : ∀ k, (∀ y0, LeO (spec_ODTrimmed.j1 k y0) (spec_ODTrimmed.j1 (k + 1) y0)) ∧ (∀ y0, LeO (spec_ODTrimmed.l1 k y0) (spec_ODTrimmed.l1 (k + 1) y0)) ∧ (∀ y0, LeO (spec_ODTrimmed.l0 k y0) (spec_ODTrimmed.l0 (k + 1) y0))
  | 0 => ⟨fun _ r h => by simp [spec_ODTrimmed.j1] at h, fun _ r h => by simp [spec_ODTrimmed.l1] at h, fun _ r h => by simp [spec_ODTrimmed.l0] at h⟩
  | k + 1 => by
    obtain ⟨ih0, ih1, ih2⟩ := spec_ODTrimmed.mono_l k
    refine ⟨?_, ?_, ?_⟩
    · intro y0
      unfold spec_ODTrimmed.j1
      repeat' first
      | (with_reducible exact ih0 _)
      | (with_reducible exact ih1 _)
      | (with_reducible exact ih2 _)
      | (with_reducible exact LeO.refl _)
      | (with_reducible exact LeO.none _)
      | (with_reducible refine LeO.ite ?_ ?_)
      | (with_reducible refine LeO.bind ?_ (fun _ => ?_))
      | exact ih0 _
      | exact ih1 _
      | exact ih2 _
      | exact LeO.none _
      | refine LeO.ite ?_ ?_
      | refine LeO.bind ?_ (fun _ => ?_)
    · intro y0
      unfold spec_ODTrimmed.l1
      repeat' first
      | (with_reducible exact ih0 _)
      | (with_reducible exact ih1 _)
      | (with_reducible exact ih2 _)
      | (with_reducible exact LeO.refl _)
      | (with_reducible exact LeO.none _)
      | (with_reducible refine LeO.ite ?_ ?_)
      | (with_reducible refine LeO.bind ?_ (fun _ => ?_))
      | exact ih0 _
      | exact ih1 _
      | exact ih2 _
      | exact LeO.none _
      | refine LeO.ite ?_ ?_
      | refine LeO.bind ?_ (fun _ => ?_)
    · intro y0
      unfold spec_ODTrimmed.l0
      repeat' first
      | (with_reducible exact ih0 _)
      | (with_reducible exact ih1 _)
      | (with_reducible exact ih2 _)
      | (with_reducible exact LeO.refl _)
      | (with_reducible exact LeO.none _)
      | (with_reducible refine LeO.ite ?_ ?_)
      | (with_reducible refine LeO.bind ?_ (fun _ => ?_))
      | exact ih0 _
      | exact ih1 _
      | exact ih2 _
      | exact LeO.none _
      | refine LeO.ite ?_ ?_
      | refine LeO.bind ?_ (fun _ => ?_)
theorem spec_ODTrimmed.mono : ∀ a0 k, LeO (spec_ODTrimmed.f k a0) (spec_ODTrimmed.f (k + 1) a0) := by
  intro a0 k
  obtain ⟨ih0, ih1, ih2⟩ := spec_ODTrimmed.mono_l k
  unfold spec_ODTrimmed.f
  repeat' first
      | (with_reducible exact ih0 _)
      | (with_reducible exact ih1 _)
      | (with_reducible exact ih2 _)
      | (with_reducible exact LeO.refl _)
      | (with_reducible exact LeO.none _)
      | (with_reducible refine LeO.ite ?_ ?_)
      | (with_reducible refine LeO.bind ?_ (fun _ => ?_))
      | exact ih0 _
      | exact ih1 _
      | exact ih2 _
      | exact LeO.none _
      | refine LeO.ite ?_ ?_
      | refine LeO.bind ?_ (fun _ => ?_)
set_option maxHeartbeats 8000000 in
set_option maxRecDepth 100000 in
theorem spec_ODTrimmed.calls (k : Nat) (P0_ : Nat → Prop) (A0 : Option Addr) (c0 : Nat) (l0 : List Bool) (r : List Bool) (w : World) (hs0 : Kd.V Kd.bool 4 w w.heap.size (fun k_ => P0_ k_) (.slice A0 l0.length c0) l0) (h : spec_ODTrimmed.f k l0 = some r) :
    Calls Tryz.prog 43 #[.slice A0 l0.length c0] w fun e w' => ∃ v0_ : Value, e = .returned (v0_) ∧ Kd.V Kd.bool 4 w' w.heap.size (fun k_ => (P0_ k_ ∨ w.heap.size ≤ k_)) v0_ r ∧ Below w.heap.size w w' := by
  have HO0 := Aside0.mk (show Kd.V Kd.bool 4 w w.heap.size (fun k_ => (P0_ k_ ∨ w.heap.size ≤ k_)) (.slice A0 l0.length c0) l0 from Kd.V_mono hs0 (fun k_ hk => .inl hk))
  have HB := Aside0.mk (Below.refl w.heap.size w)
  have H : (spec_ODTrimmed.l0 k l0) = some r := h
  clear h
  have HC2 := Aside0.mk H
  clear H
  go_enter Tryz.func43, Tryz.ntmps43
  go_upto_block 0 with (fail)
  go_cut [0] (fun v0 wc => ∃ (kq : Nat) (x0_1 : List Bool), Aside0 (spec_ODTrimmed.j1 kq x0_1 = some r) ∧ Aside0 (kq ≤ k) ∧ Aside0 (Kd.V Kd.bool 4 wc w.heap.size (fun k_ => (P0_ k_ ∨ w.heap.size ≤ k_)) v0 x0_1) ∧ Aside0 (Below w.heap.size w wc))
  case first =>
    have H := HC2.out
    clear HC2
    have H' := Aside0.mk H
    clear H
    go_wp2
    go_loopg [0] k (fun kq v0 w' => ∃ (x0_1 : List Bool), Aside0 (spec_ODTrimmed.l0 kq x0_1 = some r) ∧ Aside0 (kq ≤ k) ∧ Aside0 (Kd.V Kd.bool 4 w' w.heap.size (fun k_ => (P0_ k_ ∨ w.heap.size ≤ k_)) v0 x0_1) ∧ Aside0 (Below w.heap.size w w'))
    case atStart => exact ⟨(l0), H', ⟨Nat.le_refl _⟩, ⟨by (with_reducible repeat (first | apply Kd.V_alloc | apply Kd.V_drewN | apply Kd.V_drew)); exact HO0.out⟩, ⟨by repeat (first | (with_reducible first | exact HB.out | apply below_alloc | apply pw_below_drewN | apply below_drew1) | exact HB.out)⟩⟩
    case round =>
      clear H'
      try clear p2
      obtain ⟨x0_1, HA, HK1, HO_0, HB⟩ := hrel
      cases gk with
      | zero => exact absurd HA.out (by simp [spec_ODTrimmed.l0])
      | succ k1 =>
        have H := HA.out
        clear HA
        simp only [spec_ODTrimmed.l0] at H
        by_cases c3 : (x0_1.length : Int) > 0
        · rw [if_pos c3] at H
          have c3b0 : decide (0 < (x0_1.length : Int)) = true := decide_eq_true c3
          have c3b1 : decide (0 < x0_1.length) = true := decide_eq_true (by omega)
          clear c3
          (first | rw [c3b0] | (simp only [i64_w, i32_w]; rw [c3b0]) | skip)
          by_cases c4 : 0 < (x0_1.length : Int)
          · rw [if_pos c4] at H
            have c4b0 : decide (0 < (x0_1.length : Int)) = true := decide_eq_true c4
            have c4b1 : decide (0 < x0_1.length) = true := decide_eq_true (by omega)
            clear c4
            obtain ⟨bq5, hbq5⟩ : ∃ b_ : Bool, b_ = (rdOf false x0_1 0) := ⟨_, rfl⟩
            replace H : (if bq5 = true then (spec_ODTrimmed.j1 k1 x0_1) else (if 1 ≤ (x0_1.length : Int) then (spec_ODTrimmed.l0 k1 (x0_1.drop 1)) else (none))) = some r := by rw [← hbq5] at H; exact H
            have Nbq5 := Aside0.mk hbq5
            clear hbq5
            by_cases c6 : bq5 = true
            · subst c6
              have H1 : (spec_ODTrimmed.j1 k1 x0_1) = some r := by rw [if_pos rfl] at H; exact H
              clear H
              have H := H1
              clear H1
              have H' := Aside0.mk H
              clear H
              obtain ⟨Ao7, co7, eo7⟩ := Kd.V_slice HO_0.out
              subst eo7
              have p272 : 0 ≤ (0 : Int) := (by omega)
              have q272 : 0 < (x0_1.length : Int) := of_decide_eq_true (by first | (with_reducible assumption) | assumption)
              obtain ⟨ad272, e272, hx272_0⟩ := Kd.at_bool (Kd.V_reads' HO_0.out).2.2 0 p272 q272
              (try rw [← Nbq5.out] at hx272_0)
              cases e272
              have qi272 : (0 < x0_1.length) = True := eq_true (by omega)
              (try rw [show ((0 : Int)).toNat = 0 from rfl] at hx272_0)
              (try rw [Addr.add_zero'] at hx272_0)
              replace p272 := eq_true p272
              replace q272 := eq_true q272
              go_wp2
              go_meet
              case rel => exact ⟨_, (x0_1), H', ⟨by have := HK1.out; first | omega | exact Nat.le_refl _⟩, ⟨by (with_reducible repeat (first | apply Kd.V_alloc | apply Kd.V_drewN | apply Kd.V_drew)); exact HO_0.out⟩, ⟨by repeat (first | (with_reducible first | exact HB.out | apply below_alloc | apply pw_below_drewN | apply below_drew1) | exact HB.out)⟩⟩
            · replace c6 := Bool.eq_false_iff.mpr c6
              subst c6
              have H1 : (if 1 ≤ (x0_1.length : Int) then (spec_ODTrimmed.l0 k1 (x0_1.drop 1)) else (none)) = some r := by rw [if_neg (show ¬ (false = true) by decide)] at H; exact H
              clear H
              have H := H1
              clear H1
              by_cases c8 : 1 ≤ (x0_1.length : Int)
              · rw [if_pos c8] at H
                have c8b0 := eq_true c8
                have c8b1 : decide (1 ≤ (x0_1.length : Int)) = true := decide_eq_true c8
                clear c8
                obtain ⟨y273, hy273⟩ : ∃ y_ : List Bool, y_ = (x0_1.drop 1) := ⟨_, rfl⟩
                replace H : (spec_ODTrimmed.l0 k1 y273) = some r := by first | (rw [hy273]; with_reducible exact H) | (have H2_ := (Option.bind_some _ _).symm.trans H; rw [hy273]; with_reducible exact H2_) | (have H2_ := (Option.bind_some _ _).symm.trans H; with_reducible exact H2_) | with_reducible exact H | (rw [hy273]; exact H) | exact H
                have Ny273 := Aside0.mk hy273
                clear hy273
                have H' := Aside0.mk H
                clear H
                obtain ⟨Ao9, co9, eo9⟩ := Kd.V_slice HO_0.out
                subst eo9
                have p272 : 0 ≤ (0 : Int) := (by omega)
                have q272 : 0 < (x0_1.length : Int) := of_decide_eq_true (by first | (with_reducible assumption) | assumption)
                obtain ⟨ad272, e272, hx272_0⟩ := Kd.at_bool (Kd.V_reads' HO_0.out).2.2 0 p272 q272
                (try rw [← Nbq5.out] at hx272_0)
                cases e272
                have qi272 : (0 < x0_1.length) = True := eq_true (by omega)
                (try rw [show ((0 : Int)).toNat = 0 from rfl] at hx272_0)
                (try rw [Addr.add_zero'] at hx272_0)
                replace p272 := eq_true p272
                replace q272 := eq_true q272
                have q10 : (1 : Int) ≤ ((x0_1.length : Int) : Int) := of_decide_eq_true (by first | (with_reducible assumption) | assumption)
                obtain ⟨i010, hi010, _, hsz10, _⟩ := info_parts info4
                have hroom10 : x0_1.length ≤ co9 := (Kd.V_reads' HO_0.out).2.1
                have hC10 : Kd.F Kd.bool _ _ (some ad272) x0_1.length x0_1 := (Kd.V_at (base := w.heap.size) HO_0.out).2.2
                have hcut10 := cut_from (P := Tryz.prog) 27 4 .i64 Tryz.underlying27 hi010 1 hsz10 (some ad272) x0_1.length co9 1 (by omega) q10
                have hr10 := Kd.F_cut (m := (1 : Int).toNat) (c := co9) hC10 (by omega) hroom10
                obtain ⟨A10, hA10⟩ : ∃ A1, A1 = (if co9 = (1 : Int).toNat then (some ad272) else ((some ad272) : Option Addr).map (·.add ((1 : Int).toNat * 1))) := ⟨_, rfl⟩
                obtain ⟨c10, hc10⟩ : ∃ c1, c1 = co9 - (1 : Int).toNat := ⟨_, rfl⟩
                have hy10 : y273.length = x0_1.length - (1 : Int).toNat := (by rw [Ny273.out, List.length_drop] <;> omega)
                rw [show (x0_1).drop (1 : Int).toNat = y273 from Ny273.out.symm] at hr10
                replace hr10 : Kd.F Kd.bool _ _ A10 y273.length y273 := (by rw [hA10]; exact hr10)
                rw [← hy10, ← hA10, ← hc10] at hcut10
                have HO277 := Aside0.mk (show Kd.V Kd.bool 4 _ w.heap.size _ (.slice A10 y273.length c10) y273 from Kd.V_mk (by rw [hy10, hc10]; exact Nat.sub_le_sub_right hroom10 _) hr10)
                have HC277 := Aside0.mk (show y273.length ≤ c10 from by rw [hy10, hc10]; exact Nat.sub_le_sub_right hroom10 _)
                clear hr10 hC10 hroom10 hi010 hsz10 hc10
                have KY10 := Aside0.mk hy10
                have KA10 := Aside0.mk hA10
                clear hy10 hA10
                replace q10 := eq_true q10
                go_wp2
                go_roundg k1
                case measure => have := HK1.out; omega
                case rel => exact ⟨(y273), H', ⟨by have := HK1.out; omega⟩, ⟨by (with_reducible repeat (first | apply Kd.V_alloc | apply Kd.V_drewN | apply Kd.V_drew)); exact HO277.out⟩, ⟨by repeat (first | (with_reducible first | exact HB.out | apply below_alloc | apply pw_below_drewN | apply below_drew1) | exact HB.out)⟩⟩
              · rw [if_neg c8] at H
                exact absurd H (by simp)
          · rw [if_neg c4] at H
            exact absurd H (by simp)
        · rw [if_neg c3] at H
          have c3b0 : decide (0 < (x0_1.length : Int)) = false := decide_eq_false c3
          have c3b1 : decide (0 < x0_1.length) = false := decide_eq_false (by omega)
          clear c3
          (first | rw [c3b0] | (simp only [i64_w, i32_w]; rw [c3b0]) | skip)
          have H' := Aside0.mk H
          clear H
          obtain ⟨Ao11, co11, eo11⟩ := Kd.V_slice HO_0.out
          subst eo11
          go_wp2
          go_meet
          case rel => exact ⟨_, (x0_1), H', ⟨by have := HK1.out; first | omega | exact Nat.le_refl _⟩, ⟨by (with_reducible repeat (first | apply Kd.V_alloc | apply Kd.V_drewN | apply Kd.V_drew)); exact HO_0.out⟩, ⟨by repeat (first | (with_reducible first | exact HB.out | apply below_alloc | apply pw_below_drewN | apply below_drew1) | exact HB.out)⟩⟩
  case rest =>
    clear HC2
    try clear c1
    try clear q1
    try clear p2
    try clear q2
    try clear hx2
    try clear qi2
    try clear c3
    try clear c3b0
    try clear c3b1
    try clear c4
    try clear c4b0
    try clear c4b1
    try clear q5
    try clear c6
    try clear c8
    try clear c8b0
    try clear c8b1
    try clear c10
    try clear q10
    try clear hx272_0
    try clear p2
    try clear p272
    try clear q10
    try clear q272
    obtain ⟨kq, x0_1, HA, HJ1, HO_0, HB⟩ := hcut
    cases kq with
    | zero => exact absurd HA.out (by simp [spec_ODTrimmed.j1])
    | succ kj1 =>
      have H := HA.out
      clear HA
      simp only [spec_ODTrimmed.j1] at H
      have H' := Aside0.mk H
      clear H
      go_wp2
      go_loopg [0] kj1 (fun kq v0 w' => ∃ (x0_2 : List Bool), Aside0 (spec_ODTrimmed.l1 kq x0_2 = some r) ∧ Aside0 (kq ≤ kj1) ∧ Aside0 (Kd.V Kd.bool 4 w' w.heap.size (fun k_ => (P0_ k_ ∨ w.heap.size ≤ k_)) v0 x0_2) ∧ Aside0 (Below w.heap.size w w'))
      case atStart => exact ⟨(x0_1), H', ⟨Nat.le_refl _⟩, ⟨by (with_reducible repeat (first | apply Kd.V_alloc | apply Kd.V_drewN | apply Kd.V_drew)); exact HO_0.out⟩, ⟨by repeat (first | (with_reducible first | exact HB.out | apply below_alloc | apply pw_below_drewN | apply below_drew1) | exact HB.out)⟩⟩
      case round =>
        clear H'
        try clear c1
        try clear q1
        try clear p2
        try clear q2
        try clear hx2
        try clear qi2
        try clear c3
        try clear c3b0
        try clear c3b1
        try clear c4
        try clear c4b0
        try clear c4b1
        try clear q5
        try clear c6
        try clear c8
        try clear c8b0
        try clear c8b1
        try clear c10
        try clear q10
        try clear hx272_0
        try clear p2
        try clear p272
        try clear q1
        try clear q10
        try clear q2
        try clear q272
        try clear q5
        obtain ⟨x0_2, HA, HK2, HO_0, HB⟩ := hrel
        cases gk with
        | zero => exact absurd HA.out (by simp [spec_ODTrimmed.l1])
        | succ k2 =>
          have H := HA.out
          clear HA
          simp only [spec_ODTrimmed.l1] at H
          by_cases c12 : (x0_2.length : Int) > 0
          · rw [if_pos c12] at H
            have c12b0 : decide (0 < (x0_2.length : Int)) = true := decide_eq_true c12
            have c12b1 : decide (0 < x0_2.length) = true := decide_eq_true (by omega)
            clear c12
            obtain ⟨ji13, hji13⟩ : ∃ j_ : Int, (wrap64 ((x0_2.length : Int) - 1)) = j_ := ⟨_, rfl⟩
            replace H : (if 0 ≤ (ji13) then (if (ji13) < (x0_2.length : Int) then (if (rdOf false x0_2 (ji13) = true) then (some x0_2) else (if (ji13) ≤ (x0_2.length : Int) then (spec_ODTrimmed.l1 k2 (x0_2.take ((ji13) : Int).toNat)) else (none))) else (none)) else (none)) = some r := by first | (rw [hji13] at H; exact H) | (simp only [hji13] at H ⊢; exact H)
            have hji13w : (IntKind.i64.wrap ((x0_2.length : Int) - 1)) = ji13 := (i64_w _).trans hji13
            by_cases c14 : 0 ≤ (ji13)
            · rw [if_pos c14] at H
              have c14b0 : decide (0 ≤ (ji13)) = true := decide_eq_true c14
              clear c14
              by_cases c15 : (ji13) < (x0_2.length : Int)
              · rw [if_pos c15] at H
                have c15b0 : decide ((ji13) < (x0_2.length : Int)) = true := decide_eq_true c15
                clear c15
                obtain ⟨bq16, hbq16⟩ : ∃ b_ : Bool, b_ = (rdOf false x0_2 (ji13)) := ⟨_, rfl⟩
                replace H : (if (bq16 = true) then (some x0_2) else (if (ji13) ≤ (x0_2.length : Int) then (spec_ODTrimmed.l1 k2 (x0_2.take ((ji13) : Int).toNat)) else (none))) = some r := by rw [← hbq16] at H; exact H
                have Nbq16 := Aside0.mk hbq16
                clear hbq16
                by_cases c17 : (bq16 = true)
                · subst c17
                  have H1 : (some x0_2) = some r := by rw [if_pos rfl] at H; exact H
                  clear H
                  have H := H1
                  clear H1
                  obtain rfl := Option.some.inj H
                  obtain ⟨Ao18, co18, eo18⟩ := Kd.V_slice HO_0.out
                  subst eo18
                  have p278 : 0 ≤ ((ji13) : Int) := of_decide_eq_true (by first | (with_reducible assumption) | assumption)
                  have q278 : (ji13) < (x0_2.length : Int) := of_decide_eq_true (by first | (with_reducible assumption) | assumption)
                  obtain ⟨ad278, e278, hx278_0⟩ := Kd.at_bool (Kd.V_reads' HO_0.out).2.2 (ji13) p278 q278
                  (try rw [← Nbq16.out] at hx278_0)
                  cases e278
                  replace p278 := eq_true p278
                  replace q278 := eq_true q278
                  go_wp2
                  go_ret
                  exact ⟨_, by first | rfl | (simp [errW_none, errW_some] <;> rfl) | (simp only [← hji13]; first | rfl | (simp [errW_none, errW_some] <;> rfl)) | (simp [*, errW_none, errW_some] <;> rfl), by (with_reducible repeat (first | apply Kd.V_alloc | apply Kd.V_drewN | apply Kd.V_drew)); exact HO_0.out, by repeat (first | (with_reducible first | exact HB.out | apply below_alloc | apply pw_below_drewN | apply below_drew1) | exact HB.out)⟩
                · replace c17 := Bool.eq_false_iff.mpr c17
                  subst c17
                  have H1 : (if (ji13) ≤ (x0_2.length : Int) then (spec_ODTrimmed.l1 k2 (x0_2.take ((ji13) : Int).toNat)) else (none)) = some r := by rw [if_neg (show ¬ (false = true) by decide)] at H; exact H
                  clear H
                  have H := H1
                  clear H1
                  have c19b0 := eq_true (of_decide_eq_true (by first | (with_reducible assumption) | assumption) : 0 ≤ (ji13))
                  by_cases c20 : (ji13) ≤ (x0_2.length : Int)
                  · rw [if_pos c20] at H
                    have c20b0 := eq_true c20
                    have c20b1 : decide ((ji13) ≤ (x0_2.length : Int)) = true := decide_eq_true c20
                    clear c20
                    obtain ⟨y279, hy279⟩ : ∃ y_ : List Bool, y_ = (x0_2.take ((ji13) : Int).toNat) := ⟨_, rfl⟩
                    replace H : (spec_ODTrimmed.l1 k2 y279) = some r := by first | (rw [hy279]; with_reducible exact H) | (have H2_ := (Option.bind_some _ _).symm.trans H; rw [hy279]; with_reducible exact H2_) | (have H2_ := (Option.bind_some _ _).symm.trans H; with_reducible exact H2_) | with_reducible exact H | (rw [hy279]; exact H) | exact H
                    have Ny279 := Aside0.mk hy279
                    clear hy279
                    have H' := Aside0.mk H
                    clear H
                    obtain ⟨Ao21, co21, eo21⟩ := Kd.V_slice HO_0.out
                    subst eo21
                    have p278 : 0 ≤ ((ji13) : Int) := of_decide_eq_true (by first | (with_reducible assumption) | assumption)
                    have q278 : (ji13) < (x0_2.length : Int) := of_decide_eq_true (by first | (with_reducible assumption) | assumption)
                    obtain ⟨ad278, e278, hx278_0⟩ := Kd.at_bool (Kd.V_reads' HO_0.out).2.2 (ji13) p278 q278
                    (try rw [← Nbq16.out] at hx278_0)
                    cases e278
                    replace p278 := eq_true p278
                    replace q278 := eq_true q278
                    have q22 : ((ji13) : Int) ≤ ((x0_2.length : Int) : Int) := of_decide_eq_true (by first | (with_reducible assumption) | assumption)
                    obtain ⟨i022, hi022, _, hsz22, _⟩ := info_parts info4
                    have hroom22 : x0_2.length ≤ co21 := (Kd.V_reads' HO_0.out).2.1
                    have hC22 : Kd.F Kd.bool _ _ (some ad278) x0_2.length x0_2 := (Kd.V_at (base := w.heap.size) HO_0.out).2.2
                    have hcut22 := cut_to (P := Tryz.prog) 27 4 .i64 Tryz.underlying27 hi022 (some ad278) x0_2.length co21 (ji13) (of_decide_eq_true (by first | (with_reducible assumption) | assumption)) q22 hroom22
                    have hr22 := Kd.F_take (m := ((ji13) : Int).toNat) hC22 (by omega)
                    have hy22 : y279.length = ((ji13) : Int).toNat := (by rw [Ny279.out, List.length_take]; omega)
                    rw [← Ny279.out] at hr22
                    rw [← hy22] at hcut22
                    have HO283 := Aside0.mk (show Kd.V Kd.bool 4 _ w.heap.size _ (.slice (some ad278) y279.length co21) y279 from Kd.V_mk (by omega) hr22)
                    have HC283 := Aside0.mk (show y279.length ≤ co21 from by omega)
                    clear hr22 hC22 hroom22 hi022 hsz22
                    have KY22 := Aside0.mk hy22
                    clear hy22
                    replace q22 := eq_true q22
                    go_wp2
                    go_roundg k2
                    case measure => have := HJ1.out; have := HK2.out; omega
                    case rel => exact ⟨(y279), H', ⟨by have := HJ1.out; have := HK2.out; omega⟩, ⟨by (with_reducible repeat (first | apply Kd.V_alloc | apply Kd.V_drewN | apply Kd.V_drew)); exact HO283.out⟩, ⟨by repeat (first | (with_reducible first | exact HB.out | apply below_alloc | apply pw_below_drewN | apply below_drew1) | exact HB.out)⟩⟩
                  · rw [if_neg c20] at H
                    exact absurd H (by simp)
              · rw [if_neg c15] at H
                exact absurd H (by simp)
            · rw [if_neg c14] at H
              exact absurd H (by simp)
          · rw [if_neg c12] at H
            have c12b0 : decide (0 < (x0_2.length : Int)) = false := decide_eq_false c12
            have c12b1 : decide (0 < x0_2.length) = false := decide_eq_false (by omega)
            clear c12
            obtain rfl := Option.some.inj H
            obtain ⟨Ao23, co23, eo23⟩ := Kd.V_slice HO_0.out
            subst eo23
            go_wp2
            go_ret
            exact ⟨_, by first | rfl | (simp [errW_none, errW_some] <;> rfl) | (simp [*, errW_none, errW_some] <;> rfl), by (with_reducible repeat (first | apply Kd.V_alloc | apply Kd.V_drewN | apply Kd.V_drew)); exact HO_0.out, by repeat (first | (with_reducible first | exact HB.out | apply below_alloc | apply pw_below_drewN | apply below_drew1) | exact HB.out)⟩

end Go.Proofs.YthkddnmomjcdaaaGreat.F
