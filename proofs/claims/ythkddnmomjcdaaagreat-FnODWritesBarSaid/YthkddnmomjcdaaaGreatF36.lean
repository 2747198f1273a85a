import Derived.Test.YthkddnmomjcdaaaGreatF0
namespace Go.Proofs.YthkddnmomjcdaaaGreat.F
open Go.RowKit Go.Proofs.YthkddnmomjcdaaaGreatW.PrintWords Go.Proofs.YthkddnmomjcdaaaGreatW.PrintLast Go.Proofs.YthkddnmomjcdaaaGreatW.PrintMore
attribute [local go_sem] max2_int min2_int max_two min_two max_three min_three max_four min_four   -- for this text's walks alone
set_option linter.unusedVariables false
set_option linter.unusedSimpArgs false

/-! ### spec_odElements: function 36 -/
def spec_odElements.l0 : Nat → Int → Int → Int → List Int → Int → Option (List Int)
  | 0, _, _, _, _, _ => none
  | k + 1, x0, x1, x2, x7, x8 => if x8 < x1 then (if 0 ≤ x8 then (if x8 < (x7.length : Int) then ((some (x7.set (x8 : Int).toNat 1 : List Int)).bind fun y197 => (if 0 ≤ (IntKind.u64.wrap (wrap64 ((wrap64 (x1 - 1)) - x8))) then (if (Go.bits .and .i64 (shr .i64 x0 (IntKind.u64.wrap (wrap64 ((wrap64 (x1 - 1)) - x8)))) 1) = 1 then (spec_odElements.l0 k x0 x1 x2 (y197.set (x8 : Int).toNat x2) (wrap64 (x8 + 1))) else (spec_odElements.l0 k x0 x1 x2 y197 (wrap64 (x8 + 1)))) else (none))) else (none)) else (none)) else (some x7)
def spec_odElements.f (k : Nat) (a0 : Int) (a1 : Int) (a2 : Int) : Option (List Int) := if 0 ≤ a1 then (if (a1 : Int).toNat ≤ 35184372088832 then (spec_odElements.l0 k a0 a1 a2 (List.replicate (a1 : Int).toNat 0) 0) else (none)) else (none)
theorem spec_odElements.mono_l : ∀ k, (∀ y0 y1 y2 y3 y4, LeO (spec_odElements.l0 k y0 y1 y2 y3 y4) (spec_odElements.l0 (k + 1) y0 y1 y2 y3 y4))
  | 0 => fun _ _ _ _ _ r h => by simp [spec_odElements.l0] at h
  | k + 1 => by
    have ih0 := spec_odElements.mono_l k
    · intro y0 y1 y2 y3 y4
      unfold spec_odElements.l0
      repeat' first
      | (with_reducible exact ih0 _ _ _ _ _)
      | (with_reducible exact LeO.refl _)
      | (with_reducible exact LeO.none _)
      | (with_reducible refine LeO.ite ?_ ?_)
      | (with_reducible refine LeO.bind ?_ (fun _ => ?_))
      | exact ih0 _ _ _ _ _
      | exact LeO.none _
      | refine LeO.ite ?_ ?_
      | refine LeO.bind ?_ (fun _ => ?_)
theorem spec_odElements.mono : ∀ a0 a1 a2 k, LeO (spec_odElements.f k a0 a1 a2) (spec_odElements.f (k + 1) a0 a1 a2) := by
  intro a0 a1 a2 k
  have ih0 := spec_odElements.mono_l k
  unfold spec_odElements.f
  repeat' first
      | (with_reducible exact ih0 _ _ _ _ _)
      | (with_reducible exact LeO.refl _)
      | (with_reducible exact LeO.none _)
      | (with_reducible refine LeO.ite ?_ ?_)
      | (with_reducible refine LeO.bind ?_ (fun _ => ?_))
      | exact ih0 _ _ _ _ _
      | exact LeO.none _
      | refine LeO.ite ?_ ?_
      | refine LeO.bind ?_ (fun _ => ?_)
set_option maxHeartbeats 8000000 in
set_option maxRecDepth 100000 in
theorem spec_odElements.calls (k : Nat) (a0 : Int) (a1 : Int) (a2 : Int) (r : List Int) (w : World) (h : spec_odElements.f k a0 a1 a2 = some r) :
    Calls Tryz.prog 36 #[.int .i64 a0, .int .i64 a1, .int .i64 a2] w fun e w' => ∃ v0_ : Value, e = .returned (v0_) ∧ Kd.R (Kd.int .i64) 3 w' w.heap.size (fun _ => True) v0_ r ∧ Below w.heap.size w w' := by
  have HB := Aside0.mk (Below.refl w.heap.size w)
  have H : (if 0 ≤ a1 then (if (a1 : Int).toNat ≤ 35184372088832 then (spec_odElements.l0 k a0 a1 a2 (List.replicate (a1 : Int).toNat 0) 0) else (none)) else (none)) = some r := h
  clear h
  by_cases c4 : 0 ≤ a1
  · rw [if_pos c4] at H
    have c4b0 := eq_true c4
    have c4b1 : decide (0 ≤ a1) = true := decide_eq_true c4
    clear c4
    by_cases c5 : (a1 : Int).toNat ≤ 35184372088832
    · rw [if_pos c5] at H
      have c5b0 := eq_true c5
      have c5b1 : decide ((a1 : Int).toNat ≤ 35184372088832) = true := decide_eq_true c5
      clear c5
      obtain ⟨y194, hy194⟩ : ∃ y_ : List Int, y_ = (List.replicate (a1 : Int).toNat 0) := ⟨_, rfl⟩
      replace H : (spec_odElements.l0 k a0 a1 a2 y194 0) = some r := by first | (rw [hy194]; with_reducible exact H) | (have H2_ := (Option.bind_some _ _).symm.trans H; rw [hy194]; with_reducible exact H2_) | (have H2_ := (Option.bind_some _ _).symm.trans H; with_reducible exact H2_) | with_reducible exact H | (rw [hy194]; exact H) | exact H
      have Ny194 := Aside0.mk hy194
      clear hy194
      have H' := Aside0.mk H
      clear H
      go_enter Tryz.func36, Tryz.ntmps36
      go_wp2_with (first | ((with_reducible refine gate_dst (N := 10) rfl ?_); refine Kd.R_make (Kd.int .i64) _ 3 rfl (N := 10) rfl 40 _ _ rfl a1 rfl rfl Tryz.underlying40 (.int .i64 0) 8 info3 rfl (by decide) (by omega) 0 (ok := fun _ => True) (okp := fun _ => True) rfl (fun _ hk => hk) trivial (of_decide_eq_true (by first | (with_reducible assumption) | assumption)) (Nat.le_trans (Nat.mul_le_mul_right _ (of_decide_eq_true (by first | (with_reducible assumption) | assumption) : a1.toNat ≤ 35184372088832)) (by omega)) (Below.refl _ _) (Nat.le_refl _) ?_; intro v195 w6 ho7 hb hg_ hnew_; clear hg_ hnew_; (first | rw [← Ny194.out] at ho7 | (simp only [Int.reduceToNat] at ho7; rw [← Ny194.out] at ho7)); have n0_ := Aside0.mk (Kd.R_lower ho7 (below_size (by repeat (first | (with_reducible first | exact HB.out | apply below_alloc | apply pw_below_drewN | apply below_drew1) | exact HB.out)))); have n1_ := Aside0.mk (below_step (by repeat (first | (with_reducible first | exact HB.out | apply below_alloc | apply pw_below_drewN | apply below_drew1) | exact HB.out)) hb); clear HB; have HO196 := n0_; have HB := n1_; clear n0_ n1_; clear hb ho7))
      go_loopg [8] k (fun kq v8 w' => ∃ (x7_1 : List Int) (x8_1 : Int), v8 = .int .i64 x8_1 ∧ Aside0 (spec_odElements.l0 kq a0 a1 a2 x7_1 x8_1 = some r) ∧ Aside0 (kq ≤ k) ∧ Aside0 (Kd.R (Kd.int .i64) 3 w' w.heap.size (fun _ => True) v195 x7_1) ∧ Aside0 (Below w.heap.size w w'))
      case atStart => exact ⟨(y194), (0), (by first | rfl | (simp; done) | (simp [*]; done)), H', ⟨Nat.le_refl _⟩, ⟨by (with_reducible repeat (first | apply Kd.R_alloc | apply Kd.R_drewN | apply Kd.R_drew)); exact HO196.out⟩, ⟨by repeat (first | (with_reducible first | exact HB.out | apply below_alloc | apply pw_below_drewN | apply below_drew1) | exact HB.out)⟩⟩
      case round =>
        clear H'
        try clear p2
        try clear c3
        try clear c4
        try clear c4b0
        try clear c4b1
        try clear c5
        try clear c5b0
        try clear c5b1
        obtain ⟨x7_1, x8_1, rfl, HA, HK1, HO_7, HB⟩ := hrel
        cases gk with
        | zero => exact absurd HA.out (by simp [spec_odElements.l0])
        | succ k1 =>
          have H := HA.out
          clear HA
          simp only [spec_odElements.l0] at H
          by_cases c8 : x8_1 < a1
          · rw [if_pos c8] at H
            have c8b0 : decide (x8_1 < a1) = true := decide_eq_true c8
            clear c8
            by_cases c9 : 0 ≤ x8_1
            · rw [if_pos c9] at H
              have c9b0 : decide (0 ≤ x8_1) = true := decide_eq_true c9
              clear c9
              by_cases c10 : x8_1 < (x7_1.length : Int)
              · rw [if_pos c10] at H
                have c10b0 : decide (x8_1 < (x7_1.length : Int)) = true := decide_eq_true c10
                clear c10
                obtain ⟨y197, hy197⟩ : ∃ y_ : List Int, y_ = (x7_1.set (x8_1 : Int).toNat 1) := ⟨_, rfl⟩
                replace H : (if 0 ≤ (IntKind.u64.wrap (wrap64 ((wrap64 (a1 - 1)) - x8_1))) then (if (Go.bits .and .i64 (shr .i64 a0 (IntKind.u64.wrap (wrap64 ((wrap64 (a1 - 1)) - x8_1)))) 1) = 1 then (spec_odElements.l0 k1 a0 a1 a2 (y197.set (x8_1 : Int).toNat a2) (wrap64 (x8_1 + 1))) else (spec_odElements.l0 k1 a0 a1 a2 y197 (wrap64 (x8_1 + 1)))) else (none)) = some r := by first | (rw [hy197]; with_reducible exact H) | (have H2_ := (Option.bind_some _ _).symm.trans H; rw [hy197]; with_reducible exact H2_) | (have H2_ := (Option.bind_some _ _).symm.trans H; with_reducible exact H2_) | with_reducible exact H | (rw [hy197]; exact H) | exact H
                have Ny197 := Aside0.mk hy197
                clear hy197
                obtain ⟨ji12, hji12⟩ : ∃ j_ : Int, (IntKind.u64.wrap (wrap64 ((wrap64 (a1 - 1)) - x8_1))) = j_ := ⟨_, rfl⟩
                replace H : (if 0 ≤ (ji12) then (if (Go.bits .and .i64 (shr .i64 a0 (ji12)) 1) = 1 then (spec_odElements.l0 k1 a0 a1 a2 (y197.set (x8_1 : Int).toNat a2) (wrap64 (x8_1 + 1))) else (spec_odElements.l0 k1 a0 a1 a2 y197 (wrap64 (x8_1 + 1)))) else (none)) = some r := by first | (rw [hji12] at H; exact H) | (simp only [hji12] at H ⊢; exact H)
                by_cases c13 : 0 ≤ (ji12)
                · rw [if_pos c13] at H
                  have c13b0 := eq_true c13
                  have c13b1 : decide (0 ≤ (ji12)) = true := decide_eq_true c13
                  clear c13
                  obtain ⟨ji14, hji14⟩ : ∃ j_ : Int, (shr .i64 a0 (ji12)) = j_ := ⟨_, rfl⟩
                  replace H : (if (Go.bits .and .i64 (ji14) 1) = 1 then (spec_odElements.l0 k1 a0 a1 a2 (y197.set (x8_1 : Int).toNat a2) (wrap64 (x8_1 + 1))) else (spec_odElements.l0 k1 a0 a1 a2 y197 (wrap64 (x8_1 + 1)))) = some r := by first | (rw [hji14] at H; exact H) | (simp only [hji14] at H ⊢; exact H)
                  have hji14_ : (a0 / 2 ^ min (ji12).toNat 64) = ji14 := hji14
                  have hji14z : (ji12) ≤ 64 → (a0 / 2 ^ (ji12).toNat) = ji14 := shr_small hji14
                  by_cases c15 : (Go.bits .and .i64 (ji14) 1) = 1
                  · rw [if_pos c15] at H
                    have c15b0 : ((Go.bits .and .i64 (ji14) 1) == 1) = true := beq_iff_eq.mpr c15
                    have c15b1 : ((Go.bits .and .i64 (ji14) 1) != 1) = false := bne_eq_false_iff_eq.mpr c15
                    clear c15
                    obtain ⟨y198, hy198⟩ : ∃ y_ : List Int, y_ = (y197.set (x8_1 : Int).toNat a2) := ⟨_, rfl⟩
                    replace H : (spec_odElements.l0 k1 a0 a1 a2 y198 (wrap64 (x8_1 + 1))) = some r := by first | (rw [hy198]; with_reducible exact H) | (have H2_ := (Option.bind_some _ _).symm.trans H; rw [hy198]; with_reducible exact H2_) | (have H2_ := (Option.bind_some _ _).symm.trans H; with_reducible exact H2_) | with_reducible exact H | (rw [hy198]; exact H) | exact H
                    have Ny198 := Aside0.mk hy198
                    clear hy198
                    have H' := Aside0.mk H
                    clear H
                    have p11 : 0 ≤ (x8_1 : Int) := of_decide_eq_true (by first | (with_reducible assumption) | assumption)
                    have q11 : (x8_1 : Int) < ((x7_1.length : Int) : Int) := of_decide_eq_true (by first | (with_reducible assumption) | assumption)
                    obtain ⟨go11, co11, eo11, gb11, gl11, cl11, HG11⟩ := Kd.R_form HO_7.out (by omega)
                    (first | cases eo11 | (injection eo11 with ea_ en_ ec_; (first | subst ea_ | (injection ea_ with ea_; subst ea_)); subst ec_; clear en_))
                    have GB11 := Aside0.mk gb11
                    have GG11 := Aside0.mk HG11
                    clear gb11 gl11 HG11
                    obtain ⟨hx11_0, hf11_0⟩ := Kd.R_celln 0 HO_7.out (x8_1 : Int) p11 q11
                    replace p11 := eq_true p11
                    replace q11 := eq_true q11
                    have HP17 := Kd.R_putg HO_7.out (x8_1 : Int) 1
                    go_wp2_with (first | ((with_reducible refine gate_store (t := 3) (p := 18) rfl ?_); refine store_event (t := 3) (p := 18) (v := ?vo_w18) (w1 := (wr.setCell ⟨go11, (x8_1 : Int).toNat, none⟩ (.int .i64 1))) ?hg ?ho ?hn ?hr ?_; (case ho => rfl); (case hg => rfl); (case hn => rfl); (case hr => first | (go_simp; done) | (go_simp; rfl)); intro w18 hw; have hg : wr.grownBy w18 (some go11) := (by rw [hw]; exact HP17.2); have hp_ : Kd.R (Kd.int .i64) 3 w18 w.heap.size (fun _ => True) (.slice (some ⟨go11, 0, none⟩) x7_1.length co11) y197 := (by rw [hw, Ny197.out]; exact HP17.1); clear HP17; have n0_ := Aside0.mk (hp_); have n1_ := Aside0.mk ((by rw [hw]; exact below_set (HB.out) GB11.out : Below w.heap.size w w18)); clear HO_7; clear HB; have HO_7 := n0_; have HB := n1_; clear n0_ n1_; clear hg hw hp_; have p16 : 0 ≤ (x8_1 : Int) := of_decide_eq_true (by first | (with_reducible assumption) | assumption); have q16 : (x8_1 : Int) < ((x7_1.length : Int) : Int) := of_decide_eq_true (by first | (with_reducible assumption) | assumption); obtain ⟨hx16_0, hf16_0⟩ := Kd.R_celln 0 HO_7.out (x8_1 : Int) p16 q16; replace p16 := eq_true p16; replace q16 := eq_true q16; obtain ⟨hy19_, hz19_⟩ := Kd.R_celln 0 HO_7.out (x8_1 : Int) (of_decide_eq_true (by first | (with_reducible assumption) | assumption)) (of_decide_eq_true (by first | (with_reducible assumption) | assumption)); have HP19 := Kd.R_putg HO_7.out (x8_1 : Int) a2) | ((with_reducible refine gate_store (t := 3) (p := 31) rfl ?_); refine store_event (t := 3) (p := 31) (v := ?vo_w20) (w1 := (w18.setCell ⟨go11, (x8_1 : Int).toNat, none⟩ (.int .i64 a2))) ?hg ?ho ?hn ?hr ?_; (case ho => rfl); (case hg => rfl); (case hn => rfl); (case hr => first | (go_simp; done) | (go_simp; rfl)); intro w20 hw; have hg : w18.grownBy w20 (some go11) := (by rw [hw]; exact HP19.2); have hp_ : Kd.R (Kd.int .i64) 3 w20 w.heap.size (fun _ => True) (.slice (some ⟨go11, 0, none⟩) x7_1.length co11) y198 := (by rw [hw, Ny198.out]; exact HP19.1); clear HP19; have n0_ := Aside0.mk (hp_); have n1_ := Aside0.mk ((by rw [hw]; exact below_set (HB.out) GB11.out : Below w.heap.size w w20)); clear HO_7; clear HB; have HO_7 := n0_; have HB := n1_; clear n0_ n1_; clear hg hw hp_))
                    go_roundg k1
                    case measure => have := HK1.out; omega
                    case rel => exact ⟨(y198), (wrap64 (x8_1 + 1)), (by first | rfl | (simp; done) | (simp [*]; done)), H', ⟨by have := HK1.out; omega⟩, ⟨by (with_reducible repeat (first | apply Kd.R_alloc | apply Kd.R_drewN | apply Kd.R_drew)); exact HO_7.out⟩, ⟨by repeat (first | (with_reducible first | exact HB.out | apply below_alloc | apply pw_below_drewN | apply below_drew1) | exact HB.out)⟩⟩
                  · rw [if_neg c15] at H
                    have c15b0 : ((Go.bits .and .i64 (ji14) 1) == 1) = false := beq_eq_false_iff_ne.mpr c15
                    have c15b1 : ((Go.bits .and .i64 (ji14) 1) != 1) = true := bne_iff_ne.mpr c15
                    have H' := Aside0.mk H
                    clear H
                    have p11 : 0 ≤ (x8_1 : Int) := of_decide_eq_true (by first | (with_reducible assumption) | assumption)
                    have q11 : (x8_1 : Int) < ((x7_1.length : Int) : Int) := of_decide_eq_true (by first | (with_reducible assumption) | assumption)
                    obtain ⟨go11, co11, eo11, gb11, gl11, cl11, HG11⟩ := Kd.R_form HO_7.out (by omega)
                    (first | cases eo11 | (injection eo11 with ea_ en_ ec_; (first | subst ea_ | (injection ea_ with ea_; subst ea_)); subst ec_; clear en_))
                    have GB11 := Aside0.mk gb11
                    have GG11 := Aside0.mk HG11
                    clear gb11 gl11 HG11
                    obtain ⟨hx11_0, hf11_0⟩ := Kd.R_celln 0 HO_7.out (x8_1 : Int) p11 q11
                    replace p11 := eq_true p11
                    replace q11 := eq_true q11
                    have HP21 := Kd.R_putg HO_7.out (x8_1 : Int) 1
                    go_wp2_with (first | ((with_reducible refine gate_store (t := 3) (p := 18) rfl ?_); refine store_event (t := 3) (p := 18) (v := ?vo_w22) (w1 := (wr.setCell ⟨go11, (x8_1 : Int).toNat, none⟩ (.int .i64 1))) ?hg ?ho ?hn ?hr ?_; (case ho => rfl); (case hg => rfl); (case hn => rfl); (case hr => first | (go_simp; done) | (go_simp; rfl)); intro w22 hw; have hg : wr.grownBy w22 (some go11) := (by rw [hw]; exact HP21.2); have hp_ : Kd.R (Kd.int .i64) 3 w22 w.heap.size (fun _ => True) (.slice (some ⟨go11, 0, none⟩) x7_1.length co11) y197 := (by rw [hw, Ny197.out]; exact HP21.1); clear HP21; have n0_ := Aside0.mk (hp_); have n1_ := Aside0.mk ((by rw [hw]; exact below_set (HB.out) GB11.out : Below w.heap.size w w22)); clear HO_7; clear HB; have HO_7 := n0_; have HB := n1_; clear n0_ n1_; clear hg hw hp_))
                    go_roundg k1
                    case measure => have := HK1.out; omega
                    case rel => exact ⟨(y197), (wrap64 (x8_1 + 1)), (by first | rfl | (simp; done) | (simp [*]; done)), H', ⟨by have := HK1.out; omega⟩, ⟨by (with_reducible repeat (first | apply Kd.R_alloc | apply Kd.R_drewN | apply Kd.R_drew)); exact HO_7.out⟩, ⟨by repeat (first | (with_reducible first | exact HB.out | apply below_alloc | apply pw_below_drewN | apply below_drew1) | exact HB.out)⟩⟩
                · rw [if_neg c13] at H
                  exact absurd H (by simp)
              · rw [if_neg c10] at H
                exact absurd H (by simp)
            · rw [if_neg c9] at H
              exact absurd H (by simp)
          · rw [if_neg c8] at H
            have c8b0 : decide (x8_1 < a1) = false := decide_eq_false c8
            clear c8
            obtain rfl := Option.some.inj H
            go_wp2
            go_ret
            exact ⟨_, by first | rfl | (simp [errW_none, errW_some] <;> rfl) | (simp [*, errW_none, errW_some] <;> rfl), by (with_reducible repeat (first | apply Kd.R_alloc | apply Kd.R_drewN | apply Kd.R_drew)); exact HO_7.out, by repeat (first | (with_reducible first | exact HB.out | apply below_alloc | apply pw_below_drewN | apply below_drew1) | exact HB.out)⟩
    · rw [if_neg c5] at H
      exact absurd H (by simp)
  · rw [if_neg c4] at H
    exact absurd H (by simp)

end Go.Proofs.YthkddnmomjcdaaaGreat.F
