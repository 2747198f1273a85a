import Derived.Test.YthkddnmomjcdaaaGreatF0
namespace Go.Proofs.YthkddnmomjcdaaaGreat.F
open Go.RowKit Go.Proofs.YthkddnmomjcdaaaGreatW.PrintWords Go.Proofs.YthkddnmomjcdaaaGreatW.PrintLast Go.Proofs.YthkddnmomjcdaaaGreatW.PrintMore
attribute [local go_sem] max2_int min2_int max_two min_two max_three min_three max_four min_four   -- for this text's walks alone
set_option linter.unusedVariables false
set_option linter.unusedSimpArgs false

/-! ### oned_onedWriter_appendPattern: function 145 -/
mutual
def oned_onedWriter_appendPattern.l0 : Nat → List Bool → Int → Bool → Int → List Int → Int → Int → Option (Int × List Bool)
  | 0, _, _, _, _, _, _, _ => none
  | k + 1, x0, x1, x9, x10, x15, x16, x17 => if x17 < x16 then (if 0 ≤ x17 then (if x17 < (x15.length : Int) then (oned_onedWriter_appendPattern.l1 k x0 x1 x9 x10 (rd x15 x17) 0 x15 x16 x17) else (none)) else (none)) else (some (x10, x0))
def oned_onedWriter_appendPattern.l1 : Nat → List Bool → Int → Bool → Int → Int → Int → List Int → Int → Int → Option (Int × List Bool)
  | 0, _, _, _, _, _, _, _, _, _ => none
  | k + 1, x0, x1, x9, x10, x12, x13, x15, x16, x17 => if x13 < x12 then (if 0 ≤ x1 then (if x1 < (x0.length : Int) then (oned_onedWriter_appendPattern.l1 k (x0.set (x1 : Int).toNat x9) (wrap64 (x1 + 1)) x9 x10 x12 (wrap64 (x13 + 1)) x15 x16 x17) else (none)) else (none)) else (oned_onedWriter_appendPattern.l0 k x0 x1 (!x9) (wrap64 (x10 + x12)) x15 x16 (wrap64 (x17 + 1)))
end
def oned_onedWriter_appendPattern.f (k : Nat) (l0 : List Bool) (a1 : Int) (l2 : List Int) (a3 : Bool) : Option (Int × List Bool) := oned_onedWriter_appendPattern.l0 k l0 a1 a3 0 l2 (l2.length : Int) 0
theorem oned_onedWriter_appendPattern.mono_l : ∀ k, (∀ y0 y1 y2 y3 y4 y5 y6, LeO (oned_onedWriter_appendPattern.l0 k y0 y1 y2 y3 y4 y5 y6) (oned_onedWriter_appendPattern.l0 (k + 1) y0 y1 y2 y3 y4 y5 y6)) ∧ (∀ y0 y1 y2 y3 y4 y5 y6 y7 y8, LeO (oned_onedWriter_appendPattern.l1 k y0 y1 y2 y3 y4 y5 y6 y7 y8) (oned_onedWriter_appendPattern.l1 (k + 1) y0 y1 y2 y3 y4 y5 y6 y7 y8))
  | 0 => ⟨fun _ _ _ _ _ _ _ r h => by simp [oned_onedWriter_appendPattern.l0] at h, fun _ _ _ _ _ _ _ _ _ r h => by simp [oned_onedWriter_appendPattern.l1] at h⟩
  | k + 1 => by
    obtain ⟨ih0, ih1⟩ := oned_onedWriter_appendPattern.mono_l k
    refine ⟨?_, ?_⟩
    · intro y0 y1 y2 y3 y4 y5 y6
      unfold oned_onedWriter_appendPattern.l0
      repeat' first
      | (with_reducible exact ih0 _ _ _ _ _ _ _)
      | (with_reducible exact ih1 _ _ _ _ _ _ _ _ _)
      | (with_reducible exact LeO.refl _)
      | (with_reducible exact LeO.none _)
      | (with_reducible refine LeO.ite ?_ ?_)
      | (with_reducible refine LeO.bind ?_ (fun _ => ?_))
      | exact ih0 _ _ _ _ _ _ _
      | exact ih1 _ _ _ _ _ _ _ _ _
      | exact LeO.none _
      | refine LeO.ite ?_ ?_
      | refine LeO.bind ?_ (fun _ => ?_)
    · intro y0 y1 y2 y3 y4 y5 y6 y7 y8
      unfold oned_onedWriter_appendPattern.l1
      repeat' first
      | (with_reducible exact ih0 _ _ _ _ _ _ _)
      | (with_reducible exact ih1 _ _ _ _ _ _ _ _ _)
      | (with_reducible exact LeO.refl _)
      | (with_reducible exact LeO.none _)
      | (with_reducible refine LeO.ite ?_ ?_)
      | (with_reducible refine LeO.bind ?_ (fun _ => ?_))
      | exact ih0 _ _ _ _ _ _ _
      | exact ih1 _ _ _ _ _ _ _ _ _
      | exact LeO.none _
      | refine LeO.ite ?_ ?_
      | refine LeO.bind ?_ (fun _ => ?_)
theorem oned_onedWriter_appendPattern.mono : ∀ a0 a1 a2 a3 k, LeO (oned_onedWriter_appendPattern.f k a0 a1 a2 a3) (oned_onedWriter_appendPattern.f (k + 1) a0 a1 a2 a3) := by
  intro a0 a1 a2 a3 k
  obtain ⟨ih0, ih1⟩ := oned_onedWriter_appendPattern.mono_l k
  unfold oned_onedWriter_appendPattern.f
  repeat' first
      | (with_reducible exact ih0 _ _ _ _ _ _ _)
      | (with_reducible exact ih1 _ _ _ _ _ _ _ _ _)
      | (with_reducible exact LeO.refl _)
      | (with_reducible exact LeO.none _)
      | (with_reducible refine LeO.ite ?_ ?_)
      | (with_reducible refine LeO.bind ?_ (fun _ => ?_))
      | exact ih0 _ _ _ _ _ _ _
      | exact ih1 _ _ _ _ _ _ _ _ _
      | exact LeO.none _
      | refine LeO.ite ?_ ?_
      | refine LeO.bind ?_ (fun _ => ?_)
set_option maxHeartbeats 8000000 in
set_option maxRecDepth 100000 in
theorem oned_onedWriter_appendPattern.calls (k : Nat) (P0_ : Nat → Prop) (u9000_ : Value) (l0 : List Bool) (a1 : Int) (A2 : Option Addr) (c2 : Nat) (l2 : List Int) (a3 : Bool) (r1 : Int) (r2 : List Bool) (w0 w : World) (hB : Below w0.heap.size w0 w) (ho0 : Kd.R Kd.bool 4 w w0.heap.size P0_ u9000_ l0) (hr2 : ∀ W_, Kept w W_ (fun k_ => P0_ k_) → Kd.C (Kd.int .i64) W_ A2 l2.length l2) (hc2 : l2.length ≤ c2) (h : oned_onedWriter_appendPattern.f k l0 a1 l2 a3 = some (r1, r2)) :
    Calls Tryz.prog 145 #[u9000_, .int .i64 a1, .slice A2 l2.length c2, .bool a3] w fun e w' => e = .returned (.int .i64 r1) ∧ Kd.R Kd.bool 4 w' w0.heap.size (fun k_ => (P0_ k_ ∨ w.heap.size ≤ k_)) u9000_ r2 ∧ Below w0.heap.size w0 w' ∧ Kept w w' (fun k_ => P0_ k_) := by
  have HO0 := Aside0.mk (show Kd.R Kd.bool 4 w w0.heap.size (fun k_ => (P0_ k_ ∨ w.heap.size ≤ k_)) u9000_ l0 from Kd.R_mono ho0 (fun k_ hk => (.inl hk)))
  have HR2 := Aside0.mk hr2
  have HC2 := Aside0.mk hc2
  clear hr2 hc2
  have HK := Aside0.mk (Kept.refl w (fun k_ => P0_ k_))
  have HW0 := Aside0.mk hB.size
  have HB := Aside0.mk hB
  clear hB
  have H : (oned_onedWriter_appendPattern.l0 k l0 a1 a3 0 l2 (l2.length : Int) 0) = some (r1, r2) := h
  clear h
  have H' := Aside0.mk H
  clear H
  go_enter Tryz.func145, Tryz.ntmps145
  go_wp2
  go_loopg [1, 9, 10, 17] k (fun kq v1 v9 v10 v17 w' => ∃ (x0_1 : List Bool) (x1_1 : Int) (x9_1 : Bool) (x10_1 : Int) (x17_1 : Int), v1 = .int .i64 x1_1 ∧ v9 = .bool x9_1 ∧ v10 = .int .i64 x10_1 ∧ v17 = .int .i64 x17_1 ∧ Aside0 (oned_onedWriter_appendPattern.l0 kq x0_1 x1_1 x9_1 x10_1 l2 (l2.length : Int) x17_1 = some (r1, r2)) ∧ Aside0 (kq ≤ k) ∧ Aside0 (Kd.R Kd.bool 4 w' w0.heap.size (fun k_ => (P0_ k_ ∨ w.heap.size ≤ k_)) u9000_ x0_1) ∧ Aside0 (Kept w w' (fun k_ => P0_ k_)) ∧ Aside0 (Below w0.heap.size w0 w'))
  case atStart => exact ⟨(l0), (a1), (a3), (0), (0), (by first | rfl | (simp; done) | (simp [*]; done)), (by first | rfl | (simp; done) | (simp [*]; done)), (by first | rfl | (simp; done) | (simp [*]; done)), (by first | rfl | (simp; done) | (simp [*]; done)), H', ⟨Nat.le_refl _⟩, ⟨by (with_reducible repeat (first | apply Kd.R_alloc | apply Kd.R_drewN | apply Kd.R_drew)); exact HO0.out⟩, ⟨by repeat (first | (with_reducible first | exact HK.out | apply Kept.alloc | apply Kept.drewN | apply Kept.drew) | exact HK.out)⟩, ⟨by repeat (first | (with_reducible first | exact HB.out | apply below_alloc | apply pw_below_drewN | apply below_drew1) | exact HB.out)⟩⟩
  case round =>
    clear H'
    try clear c1
    try clear c2
    try clear p2
    obtain ⟨x0_1, x1_1, x9_1, x10_1, x17_1, rfl, rfl, rfl, rfl, HA, HK1, HO_0, HK, HB⟩ := hrel
    cases gk with
    | zero => exact absurd HA.out (by simp [oned_onedWriter_appendPattern.l0])
    | succ k1 =>
      have H := HA.out
      clear HA
      simp only [oned_onedWriter_appendPattern.l0] at H
      by_cases c5 : x17_1 < (l2.length : Int)
      · rw [if_pos c5] at H
        have c5b0 : decide (x17_1 < (l2.length : Int)) = true := decide_eq_true c5
        clear c5
        by_cases c6 : 0 ≤ x17_1
        · rw [if_pos c6] at H
          have c6b0 : decide (0 ≤ x17_1) = true := decide_eq_true c6
          clear c6
          by_cases c7 : x17_1 < (l2.length : Int)
          · rw [if_pos c7] at H
            have c7b0 : decide (x17_1 < (l2.length : Int)) = true := decide_eq_true c7
            clear c7
            have H' := Aside0.mk H
            clear H
            have p397 : 0 ≤ (x17_1 : Int) := of_decide_eq_true (by first | (with_reducible assumption) | assumption)
            have q397 : x17_1 < (l2.length : Int) := of_decide_eq_true (by first | (with_reducible assumption) | assumption)
            obtain ⟨ad397, e397, hx397_0⟩ := Kd.at_int (Kd.C_kept_now HR2.out HK.out) x17_1 p397 q397
            cases e397
            replace p397 := eq_true p397
            replace q397 := eq_true q397
            go_wp2
            go_loopg [1, 13] k1 (fun kq v1 v13 w' => ∃ (x0_2 : List Bool) (x1_2 : Int) (x13_2 : Int), v1 = .int .i64 x1_2 ∧ v13 = .int .i64 x13_2 ∧ Aside0 (oned_onedWriter_appendPattern.l1 kq x0_2 x1_2 x9_1 x10_1 (rd l2 x17_1) x13_2 l2 (l2.length : Int) x17_1 = some (r1, r2)) ∧ Aside0 (kq ≤ k1) ∧ Aside0 (Kd.R Kd.bool 4 w' w0.heap.size (fun k_ => (P0_ k_ ∨ w.heap.size ≤ k_)) u9000_ x0_2) ∧ Aside0 (Kept w w' (fun k_ => P0_ k_)) ∧ Aside0 (Below w0.heap.size w0 w'))
            case atStart => exact ⟨(x0_1), (x1_1), (0), (by first | rfl | (simp; done) | (simp [*]; done)), (by first | rfl | (simp; done) | (simp [*]; done)), H', ⟨Nat.le_refl _⟩, ⟨by (with_reducible repeat (first | apply Kd.R_alloc | apply Kd.R_drewN | apply Kd.R_drew)); exact HO_0.out⟩, ⟨by repeat (first | (with_reducible first | exact HK.out | apply Kept.alloc | apply Kept.drewN | apply Kept.drew) | exact HK.out)⟩, ⟨by repeat (first | (with_reducible first | exact HB.out | apply below_alloc | apply pw_below_drewN | apply below_drew1) | exact HB.out)⟩⟩
            case round =>
              clear H'
              try clear c1
              try clear c2
              try clear p2
              try clear p3
              try clear q3
              try clear hx3
              try clear c5
              try clear c5b0
              try clear c6
              try clear c6b0
              try clear c7
              try clear c7b0
              try clear hx397_0
              try clear p2
              try clear p397
              try clear q397
              obtain ⟨x0_2, x1_2, x13_2, rfl, rfl, HA, HK2, HO_0, HK, HB⟩ := hrel
              cases gk with
              | zero => exact absurd HA.out (by simp [oned_onedWriter_appendPattern.l1])
              | succ k2 =>
                have H := HA.out
                clear HA
                simp only [oned_onedWriter_appendPattern.l1] at H
                by_cases c8 : x13_2 < (rd l2 x17_1)
                · rw [if_pos c8] at H
                  have c8b0 : decide (x13_2 < (rd l2 x17_1)) = true := decide_eq_true c8
                  clear c8
                  by_cases c9 : 0 ≤ x1_2
                  · rw [if_pos c9] at H
                    have c9b0 : decide (0 ≤ x1_2) = true := decide_eq_true c9
                    clear c9
                    by_cases c10 : x1_2 < (x0_2.length : Int)
                    · rw [if_pos c10] at H
                      have c10b0 : decide (x1_2 < (x0_2.length : Int)) = true := decide_eq_true c10
                      clear c10
                      obtain ⟨y398, hy398⟩ : ∃ y_ : List Bool, y_ = (x0_2.set (x1_2 : Int).toNat x9_1) := ⟨_, rfl⟩
                      replace H : (oned_onedWriter_appendPattern.l1 k2 y398 (wrap64 (x1_2 + 1)) x9_1 x10_1 (rd l2 x17_1) (wrap64 (x13_2 + 1)) l2 (l2.length : Int) x17_1) = some (r1, r2) := by first | (rw [hy398]; with_reducible exact H) | (have H2_ := (Option.bind_some _ _).symm.trans H; rw [hy398]; with_reducible exact H2_) | (have H2_ := (Option.bind_some _ _).symm.trans H; with_reducible exact H2_) | with_reducible exact H | (rw [hy398]; exact H) | exact H
                      have Ny398 := Aside0.mk hy398
                      clear hy398
                      have H' := Aside0.mk H
                      clear H
                      have p11 : 0 ≤ (x1_2 : Int) := of_decide_eq_true (by first | (with_reducible assumption) | assumption)
                      have q11 : (x1_2 : Int) < ((x0_2.length : Int) : Int) := of_decide_eq_true (by first | (with_reducible assumption) | assumption)
                      obtain ⟨go11, co11, eo11, gb11, gl11, cl11, HG11⟩ := Kd.R_form HO_0.out (by omega)
                      (first | cases eo11 | (injection eo11 with ea_ en_ ec_; (first | subst ea_ | (injection ea_ with ea_; subst ea_)); subst ec_; clear en_))
                      have GB11 := Aside0.mk gb11
                      have GG11 := Aside0.mk HG11
                      clear gb11 gl11 HG11
                      have HMgo11 := Aside0.mk (show (P0_ go11 ∨ w.heap.size ≤ go11) from (HO_0.out.1 _ rfl))
                      obtain ⟨hx11_0, hf11_0⟩ := Kd.R_celln false HO_0.out (x1_2 : Int) p11 q11
                      replace p11 := eq_true p11
                      replace q11 := eq_true q11
                      have HP12 := Kd.R_putg HO_0.out (x1_2 : Int) x9_1
                      go_wp2_with (first | ((with_reducible refine gate_store (t := 4) (p := 29) rfl ?_); refine store_event (t := 4) (p := 29) (v := ?vo_w13) (w1 := (wr.setCell ⟨go11, (x1_2 : Int).toNat, none⟩ (.bool x9_1))) ?hg ?ho ?hn ?hr ?_; (case ho => rfl); (case hg => rfl); (case hn => rfl); (case hr => first | (go_simp; done) | (go_simp; rfl)); intro w13 hw; have hg : wr.grownBy w13 (some go11) := (by rw [hw]; exact HP12.2); have hp_ : Kd.R Kd.bool 4 w13 w0.heap.size (fun k_ => (P0_ k_ ∨ w.heap.size ≤ k_)) (.slice (some ⟨go11, 0, none⟩) x0_2.length co11) y398 := (by rw [hw, Ny398.out]; exact HP12.1); clear HP12; have n0_ := Aside0.mk (hp_); have n1_ := Aside0.mk ((by rw [hw]; exact below_set (HB.out) GB11.out : Below w0.heap.size w0 w13)); have n2_ := Aside0.mk (Kept.of_grown (S := (fun k_ => P0_ k_)) hg (by repeat (first | (with_reducible first | exact HK.out | apply Kept.alloc | apply Kept.drewN | apply Kept.drew) | exact HK.out)) (fun k_ e_ => (HO_0.out.1 k_ e_))); clear HO_0; clear HB; clear HK; have HO_0 := n0_; have HB := n1_; have HK := n2_; clear n0_ n1_ n2_; clear hg hw hp_))
                      go_roundg k2
                      case measure => have := HK1.out; have := HK2.out; omega
                      case rel => exact ⟨(y398), (wrap64 (x1_2 + 1)), (wrap64 (x13_2 + 1)), (by first | rfl | (simp; done) | (simp [*]; done)), (by first | rfl | (simp; done) | (simp [*]; done)), H', ⟨by have := HK1.out; have := HK2.out; omega⟩, ⟨by (with_reducible repeat (first | apply Kd.R_alloc | apply Kd.R_drewN | apply Kd.R_drew)); exact HO_0.out⟩, ⟨by repeat (first | (with_reducible first | exact HK.out | apply Kept.alloc | apply Kept.drewN | apply Kept.drew) | exact HK.out)⟩, ⟨by repeat (first | (with_reducible first | exact HB.out | apply below_alloc | apply pw_below_drewN | apply below_drew1) | exact HB.out)⟩⟩
                    · rw [if_neg c10] at H
                      exact absurd H (by simp)
                  · rw [if_neg c9] at H
                    exact absurd H (by simp)
                · rw [if_neg c8] at H
                  have c8b0 : decide (x13_2 < (rd l2 x17_1)) = false := decide_eq_false c8
                  clear c8
                  have H' := Aside0.mk H
                  clear H
                  go_wp2
                  go_roundg k2
                  case measure => have := HK1.out; have := HK2.out; omega
                  case rel => exact ⟨(x0_2), (x1_2), (!x9_1), (wrap64 (x10_1 + (rd l2 x17_1))), (wrap64 (x17_1 + 1)), (by first | rfl | (simp; done) | (simp [*]; done)), (by first | rfl | (simp; done) | (simp [*]; done)), (by first | rfl | (simp; done) | (simp [*]; done)), (by first | rfl | (simp; done) | (simp [*]; done)), H', ⟨by have := HK1.out; have := HK2.out; omega⟩, ⟨by (with_reducible repeat (first | apply Kd.R_alloc | apply Kd.R_drewN | apply Kd.R_drew)); exact HO_0.out⟩, ⟨by repeat (first | (with_reducible first | exact HK.out | apply Kept.alloc | apply Kept.drewN | apply Kept.drew) | exact HK.out)⟩, ⟨by repeat (first | (with_reducible first | exact HB.out | apply below_alloc | apply pw_below_drewN | apply below_drew1) | exact HB.out)⟩⟩
          · rw [if_neg c7] at H
            exact absurd H (by simp)
        · rw [if_neg c6] at H
          exact absurd H (by simp)
      · rw [if_neg c5] at H
        have c5b0 : decide (x17_1 < (l2.length : Int)) = false := decide_eq_false c5
        clear c5
        simp only [Option.some.injEq, Prod.mk.injEq] at H
        obtain ⟨rfl, rfl⟩ := H
        go_wp2
        go_ret
        exact ⟨by first | rfl | (simp [errW_none, errW_some] <;> rfl) | (simp [*, errW_none, errW_some] <;> rfl), by (with_reducible repeat (first | apply Kd.R_alloc | apply Kd.R_drewN | apply Kd.R_drew)); exact HO_0.out, by repeat (first | (with_reducible first | exact HB.out | apply below_alloc | apply pw_below_drewN | apply below_drew1) | exact HB.out), by repeat (first | (with_reducible first | exact HK.out | apply Kept.alloc | apply Kept.drewN | apply Kept.drew) | exact HK.out)⟩

-- NOT PRINTED: function 162 (oned_onedWriter_checkNumeric)

end Go.Proofs.YthkddnmomjcdaaaGreat.F
