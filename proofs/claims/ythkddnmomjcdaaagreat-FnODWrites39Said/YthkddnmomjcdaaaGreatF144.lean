import Derived.Test.YthkddnmomjcdaaaGreatF0
namespace Go.Proofs.YthkddnmomjcdaaaGreat.F
open Go.RowKit Go.Proofs.YthkddnmomjcdaaaGreatW.PrintWords Go.Proofs.YthkddnmomjcdaaaGreatW.PrintLast Go.Proofs.YthkddnmomjcdaaaGreatW.PrintMore
attribute [local go_sem] max2_int min2_int max_two min_two max_three min_three max_four min_four   -- for this text's walks alone
set_option linter.unusedVariables false
set_option linter.unusedSimpArgs false

/-! ### oned_code39ToIntArray: function 144 -/
def oned_code39ToIntArray.l0 : Nat → Int → List Int → Int → Option (List Int)
  | 0, _, _, _ => none
  | k + 1, x0, x1, x4 => if x4 < 9 then (if 0 ≤ (IntKind.u64.wrap (wrap64 (8 - x4))) then (if (Go.bits .and .i64 x0 (shl .i64 1 (IntKind.u64.wrap (wrap64 (8 - x4))))) = 0 then (if 0 ≤ x4 then (if x4 < (x1.length : Int) then (oned_code39ToIntArray.l0 k x0 (x1.set (x4 : Int).toNat 1) (wrap64 (x4 + 1))) else (none)) else (none)) else (if 0 ≤ x4 then (if x4 < (x1.length : Int) then (oned_code39ToIntArray.l0 k x0 (x1.set (x4 : Int).toNat 2) (wrap64 (x4 + 1))) else (none)) else (none))) else (none)) else (some x1)
def oned_code39ToIntArray.f (k : Nat) (a0 : Int) (l1 : List Int) : Option (List Int) := oned_code39ToIntArray.l0 k a0 l1 0
theorem oned_code39ToIntArray.mono_l : ∀ k, (∀ y0 y1 y2, LeO (oned_code39ToIntArray.l0 k y0 y1 y2) (oned_code39ToIntArray.l0 (k + 1) y0 y1 y2))
  | 0 => fun _ _ _ r h => by simp [oned_code39ToIntArray.l0] at h
  | k + 1 => by
    have ih0 := oned_code39ToIntArray.mono_l k
    · intro y0 y1 y2
      unfold oned_code39ToIntArray.l0
      repeat' first
      | (with_reducible exact ih0 _ _ _)
      | (with_reducible exact LeO.refl _)
      | (with_reducible exact LeO.none _)
      | (with_reducible refine LeO.ite ?_ ?_)
      | (with_reducible refine LeO.bind ?_ (fun _ => ?_))
      | exact ih0 _ _ _
      | exact LeO.none _
      | refine LeO.ite ?_ ?_
      | refine LeO.bind ?_ (fun _ => ?_)
theorem oned_code39ToIntArray.mono : ∀ a0 a1 k, LeO (oned_code39ToIntArray.f k a0 a1) (oned_code39ToIntArray.f (k + 1) a0 a1) := by
  intro a0 a1 k
  have ih0 := oned_code39ToIntArray.mono_l k
  unfold oned_code39ToIntArray.f
  repeat' first
      | (with_reducible exact ih0 _ _ _)
      | (with_reducible exact LeO.refl _)
      | (with_reducible exact LeO.none _)
      | (with_reducible refine LeO.ite ?_ ?_)
      | (with_reducible refine LeO.bind ?_ (fun _ => ?_))
      | exact ih0 _ _ _
      | exact LeO.none _
      | refine LeO.ite ?_ ?_
      | refine LeO.bind ?_ (fun _ => ?_)
set_option maxHeartbeats 8000000 in
set_option maxRecDepth 100000 in
theorem oned_code39ToIntArray.calls (k : Nat) (a0 : Int) (P1_ : Nat → Prop) (u9000_ : Value) (l1 : List Int) (r : List Int) (w0 w : World) (hB : Below w0.heap.size w0 w) (ho1 : Kd.R (Kd.int .i64) 3 w w0.heap.size P1_ u9000_ l1) (h : oned_code39ToIntArray.f k a0 l1 = some r) :
    Calls Tryz.prog 144 #[.int .i64 a0, u9000_] w fun e w' => e = .returned (.tuple #[]) ∧ Kd.R (Kd.int .i64) 3 w' w0.heap.size (fun k_ => (P1_ k_ ∨ w.heap.size ≤ k_)) u9000_ r ∧ Below w0.heap.size w0 w' ∧ Kept w w' (fun k_ => P1_ k_) := by
  have HO1 := Aside0.mk (show Kd.R (Kd.int .i64) 3 w w0.heap.size (fun k_ => (P1_ k_ ∨ w.heap.size ≤ k_)) u9000_ l1 from Kd.R_mono ho1 (fun k_ hk => (.inl hk)))
  have HK := Aside0.mk (Kept.refl w (fun k_ => P1_ k_))
  have HW0 := Aside0.mk hB.size
  have HB := Aside0.mk hB
  clear hB
  have H : (oned_code39ToIntArray.l0 k a0 l1 0) = some r := h
  clear h
  have H' := Aside0.mk H
  clear H
  go_enter Tryz.func144, Tryz.ntmps144
  go_wp2
  go_loopg [4] k (fun kq v4 w' => ∃ (x1_1 : List Int) (x4_1 : Int), v4 = .int .i64 x4_1 ∧ Aside0 (oned_code39ToIntArray.l0 kq a0 x1_1 x4_1 = some r) ∧ Aside0 (kq ≤ k) ∧ Aside0 (Kd.R (Kd.int .i64) 3 w' w0.heap.size (fun k_ => (P1_ k_ ∨ w.heap.size ≤ k_)) u9000_ x1_1) ∧ Aside0 (Kept w w' (fun k_ => P1_ k_)) ∧ Aside0 (Below w0.heap.size w0 w'))
  case atStart => exact ⟨(l1), (0), (by first | rfl | (simp; done) | (simp [*]; done)), H', ⟨Nat.le_refl _⟩, ⟨by (with_reducible repeat (first | apply Kd.R_alloc | apply Kd.R_drewN | apply Kd.R_drew)); exact HO1.out⟩, ⟨by repeat (first | (with_reducible first | exact HK.out | apply Kept.alloc | apply Kept.drewN | apply Kept.drew) | exact HK.out)⟩, ⟨by repeat (first | (with_reducible first | exact HB.out | apply below_alloc | apply pw_below_drewN | apply below_drew1) | exact HB.out)⟩⟩
  case round =>
    clear H'
    try clear c1
    try clear p2
    obtain ⟨x1_1, x4_1, rfl, HA, HK1, HO_1, HK, HB⟩ := hrel
    cases gk with
    | zero => exact absurd HA.out (by simp [oned_code39ToIntArray.l0])
    | succ k1 =>
      have H := HA.out
      clear HA
      simp only [oned_code39ToIntArray.l0] at H
      by_cases c3 : x4_1 < 9
      · rw [if_pos c3] at H
        have c3b0 : decide (x4_1 < 9) = true := decide_eq_true c3
        clear c3
        obtain ⟨ji4, hji4⟩ : ∃ j_ : Int, (IntKind.u64.wrap (wrap64 (8 - x4_1))) = j_ := ⟨_, rfl⟩
        replace H : (if 0 ≤ (ji4) then (if (Go.bits .and .i64 a0 (shl .i64 1 (ji4))) = 0 then (if 0 ≤ x4_1 then (if x4_1 < (x1_1.length : Int) then (oned_code39ToIntArray.l0 k1 a0 (x1_1.set (x4_1 : Int).toNat 1) (wrap64 (x4_1 + 1))) else (none)) else (none)) else (if 0 ≤ x4_1 then (if x4_1 < (x1_1.length : Int) then (oned_code39ToIntArray.l0 k1 a0 (x1_1.set (x4_1 : Int).toNat 2) (wrap64 (x4_1 + 1))) else (none)) else (none))) else (none)) = some r := by first | (rw [hji4] at H; exact H) | (simp only [hji4] at H ⊢; exact H)
        by_cases c5 : 0 ≤ (ji4)
        · rw [if_pos c5] at H
          have c5b0 := eq_true c5
          have c5b1 : decide (0 ≤ (ji4)) = true := decide_eq_true c5
          clear c5
          obtain ⟨ji6, hji6⟩ : ∃ j_ : Int, (shl .i64 1 (ji4)) = j_ := ⟨_, rfl⟩
          replace H : (if (Go.bits .and .i64 a0 (ji6)) = 0 then (if 0 ≤ x4_1 then (if x4_1 < (x1_1.length : Int) then (oned_code39ToIntArray.l0 k1 a0 (x1_1.set (x4_1 : Int).toNat 1) (wrap64 (x4_1 + 1))) else (none)) else (none)) else (if 0 ≤ x4_1 then (if x4_1 < (x1_1.length : Int) then (oned_code39ToIntArray.l0 k1 a0 (x1_1.set (x4_1 : Int).toNat 2) (wrap64 (x4_1 + 1))) else (none)) else (none))) = some r := by first | (rw [hji6] at H; exact H) | (simp only [hji6] at H ⊢; exact H)
          have hji6_ : (IntKind.i64.wrap (1 * 2 ^ min (ji4).toNat 64)) = ji6 := hji6
          have hji6z : (ji4) ≤ 64 → (IntKind.i64.wrap (1 * 2 ^ (ji4).toNat)) = ji6 := shl_small hji6
          have hji6u : (IntKind.i64.wrap (2 ^ min (ji4).toNat 64)) = ji6 := by have h_ := hji6_; rw [Int.one_mul] at h_; exact h_
          have hji6v : (ji4) ≤ 64 → (IntKind.i64.wrap (2 ^ (ji4).toNat)) = ji6 := fun hle_ => by have h_ := hji6z hle_; rw [Int.one_mul] at h_; exact h_
          have hji6y : (wrap64 (1 * 2 ^ min (ji4).toNat 64)) = ji6 := (i64_w _).symm.trans hji6_
          have hji6x : (ji4) ≤ 64 → (wrap64 (1 * 2 ^ (ji4).toNat)) = ji6 := fun h_ => (i64_w _).symm.trans (hji6z h_)
          by_cases c7 : (Go.bits .and .i64 a0 (ji6)) = 0
          · rw [if_pos c7] at H
            have c7b0 : ((Go.bits .and .i64 a0 (ji6)) == 0) = true := beq_iff_eq.mpr c7
            have c7b1 : ((Go.bits .and .i64 a0 (ji6)) != 0) = false := bne_eq_false_iff_eq.mpr c7
            clear c7
            by_cases c8 : 0 ≤ x4_1
            · rw [if_pos c8] at H
              have c8b0 : decide (0 ≤ x4_1) = true := decide_eq_true c8
              clear c8
              by_cases c9 : x4_1 < (x1_1.length : Int)
              · rw [if_pos c9] at H
                have c9b0 : decide (x4_1 < (x1_1.length : Int)) = true := decide_eq_true c9
                clear c9
                obtain ⟨y523, hy523⟩ : ∃ y_ : List Int, y_ = (x1_1.set (x4_1 : Int).toNat 1) := ⟨_, rfl⟩
                replace H : (oned_code39ToIntArray.l0 k1 a0 y523 (wrap64 (x4_1 + 1))) = some r := by first | (rw [hy523]; with_reducible exact H) | (have H2_ := (Option.bind_some _ _).symm.trans H; rw [hy523]; with_reducible exact H2_) | (have H2_ := (Option.bind_some _ _).symm.trans H; with_reducible exact H2_) | with_reducible exact H | (rw [hy523]; exact H) | exact H
                have Ny523 := Aside0.mk hy523
                clear hy523
                have H' := Aside0.mk H
                clear H
                have p10 : 0 ≤ (x4_1 : Int) := of_decide_eq_true (by first | (with_reducible assumption) | assumption)
                have q10 : (x4_1 : Int) < ((x1_1.length : Int) : Int) := of_decide_eq_true (by first | (with_reducible assumption) | assumption)
                obtain ⟨go10, co10, eo10, gb10, gl10, cl10, HG10⟩ := Kd.R_form HO_1.out (by omega)
                (first | cases eo10 | (injection eo10 with ea_ en_ ec_; (first | subst ea_ | (injection ea_ with ea_; subst ea_)); subst ec_; clear en_))
                have GB10 := Aside0.mk gb10
                have GG10 := Aside0.mk HG10
                clear gb10 gl10 HG10
                have HMgo10 := Aside0.mk (show (P1_ go10 ∨ w.heap.size ≤ go10) from (HO_1.out.1 _ rfl))
                obtain ⟨hx10_0, hf10_0⟩ := Kd.R_celln 0 HO_1.out (x4_1 : Int) p10 q10
                replace p10 := eq_true p10
                replace q10 := eq_true q10
                have HP11 := Kd.R_putg HO_1.out (x4_1 : Int) 1
                go_wp2_with (first | ((with_reducible refine gate_store (t := 3) (p := 20) rfl ?_); refine store_event (t := 3) (p := 20) (v := ?vo_w12) (w1 := (wr.setCell ⟨go10, (x4_1 : Int).toNat, none⟩ (.int .i64 1))) ?hg ?ho ?hn ?hr ?_; (case ho => rfl); (case hg => rfl); (case hn => rfl); (case hr => first | (go_simp; done) | (go_simp; rfl)); intro w12 hw; have hg : wr.grownBy w12 (some go10) := (by rw [hw]; exact HP11.2); have hp_ : Kd.R (Kd.int .i64) 3 w12 w0.heap.size (fun k_ => (P1_ k_ ∨ w.heap.size ≤ k_)) (.slice (some ⟨go10, 0, none⟩) x1_1.length co10) y523 := (by rw [hw, Ny523.out]; exact HP11.1); clear HP11; have n0_ := Aside0.mk (hp_); have n1_ := Aside0.mk ((by rw [hw]; exact below_set (HB.out) GB10.out : Below w0.heap.size w0 w12)); have n2_ := Aside0.mk (Kept.of_grown (S := (fun k_ => P1_ k_)) hg (by repeat (first | (with_reducible first | exact HK.out | apply Kept.alloc | apply Kept.drewN | apply Kept.drew) | exact HK.out)) (fun k_ e_ => (HO_1.out.1 k_ e_))); clear HO_1; clear HB; clear HK; have HO_1 := n0_; have HB := n1_; have HK := n2_; clear n0_ n1_ n2_; clear hg hw hp_))
                go_roundg k1
                case measure => have := HK1.out; omega
                case rel => exact ⟨(y523), (wrap64 (x4_1 + 1)), (by first | rfl | (simp; done) | (simp [*]; done)), H', ⟨by have := HK1.out; omega⟩, ⟨by (with_reducible repeat (first | apply Kd.R_alloc | apply Kd.R_drewN | apply Kd.R_drew)); exact HO_1.out⟩, ⟨by repeat (first | (with_reducible first | exact HK.out | apply Kept.alloc | apply Kept.drewN | apply Kept.drew) | exact HK.out)⟩, ⟨by repeat (first | (with_reducible first | exact HB.out | apply below_alloc | apply pw_below_drewN | apply below_drew1) | exact HB.out)⟩⟩
              · rw [if_neg c9] at H
                exact absurd H (by simp)
            · rw [if_neg c8] at H
              exact absurd H (by simp)
          · rw [if_neg c7] at H
            have c7b0 : ((Go.bits .and .i64 a0 (ji6)) == 0) = false := beq_eq_false_iff_ne.mpr c7
            have c7b1 : ((Go.bits .and .i64 a0 (ji6)) != 0) = true := bne_iff_ne.mpr c7
            by_cases c13 : 0 ≤ x4_1
            · rw [if_pos c13] at H
              have c13b0 : decide (0 ≤ x4_1) = true := decide_eq_true c13
              clear c13
              by_cases c14 : x4_1 < (x1_1.length : Int)
              · rw [if_pos c14] at H
                have c14b0 : decide (x4_1 < (x1_1.length : Int)) = true := decide_eq_true c14
                clear c14
                obtain ⟨y524, hy524⟩ : ∃ y_ : List Int, y_ = (x1_1.set (x4_1 : Int).toNat 2) := ⟨_, rfl⟩
                replace H : (oned_code39ToIntArray.l0 k1 a0 y524 (wrap64 (x4_1 + 1))) = some r := by first | (rw [hy524]; with_reducible exact H) | (have H2_ := (Option.bind_some _ _).symm.trans H; rw [hy524]; with_reducible exact H2_) | (have H2_ := (Option.bind_some _ _).symm.trans H; with_reducible exact H2_) | with_reducible exact H | (rw [hy524]; exact H) | exact H
                have Ny524 := Aside0.mk hy524
                clear hy524
                have H' := Aside0.mk H
                clear H
                have p15 : 0 ≤ (x4_1 : Int) := of_decide_eq_true (by first | (with_reducible assumption) | assumption)
                have q15 : (x4_1 : Int) < ((x1_1.length : Int) : Int) := of_decide_eq_true (by first | (with_reducible assumption) | assumption)
                obtain ⟨go15, co15, eo15, gb15, gl15, cl15, HG15⟩ := Kd.R_form HO_1.out (by omega)
                (first | cases eo15 | (injection eo15 with ea_ en_ ec_; (first | subst ea_ | (injection ea_ with ea_; subst ea_)); subst ec_; clear en_))
                have GB15 := Aside0.mk gb15
                have GG15 := Aside0.mk HG15
                clear gb15 gl15 HG15
                have HMgo15 := Aside0.mk (show (P1_ go15 ∨ w.heap.size ≤ go15) from (HO_1.out.1 _ rfl))
                obtain ⟨hx15_0, hf15_0⟩ := Kd.R_celln 0 HO_1.out (x4_1 : Int) p15 q15
                replace p15 := eq_true p15
                replace q15 := eq_true q15
                have HP16 := Kd.R_putg HO_1.out (x4_1 : Int) 2
                go_wp2_with (first | ((with_reducible refine gate_store (t := 3) (p := 23) rfl ?_); refine store_event (t := 3) (p := 23) (v := ?vo_w17) (w1 := (wr.setCell ⟨go15, (x4_1 : Int).toNat, none⟩ (.int .i64 2))) ?hg ?ho ?hn ?hr ?_; (case ho => rfl); (case hg => rfl); (case hn => rfl); (case hr => first | (go_simp; done) | (go_simp; rfl)); intro w17 hw; have hg : wr.grownBy w17 (some go15) := (by rw [hw]; exact HP16.2); have hp_ : Kd.R (Kd.int .i64) 3 w17 w0.heap.size (fun k_ => (P1_ k_ ∨ w.heap.size ≤ k_)) (.slice (some ⟨go15, 0, none⟩) x1_1.length co15) y524 := (by rw [hw, Ny524.out]; exact HP16.1); clear HP16; have n0_ := Aside0.mk (hp_); have n1_ := Aside0.mk ((by rw [hw]; exact below_set (HB.out) GB15.out : Below w0.heap.size w0 w17)); have n2_ := Aside0.mk (Kept.of_grown (S := (fun k_ => P1_ k_)) hg (by repeat (first | (with_reducible first | exact HK.out | apply Kept.alloc | apply Kept.drewN | apply Kept.drew) | exact HK.out)) (fun k_ e_ => (HO_1.out.1 k_ e_))); clear HO_1; clear HB; clear HK; have HO_1 := n0_; have HB := n1_; have HK := n2_; clear n0_ n1_ n2_; clear hg hw hp_))
                go_roundg k1
                case measure => have := HK1.out; omega
                case rel => exact ⟨(y524), (wrap64 (x4_1 + 1)), (by first | rfl | (simp; done) | (simp [*]; done)), H', ⟨by have := HK1.out; omega⟩, ⟨by (with_reducible repeat (first | apply Kd.R_alloc | apply Kd.R_drewN | apply Kd.R_drew)); exact HO_1.out⟩, ⟨by repeat (first | (with_reducible first | exact HK.out | apply Kept.alloc | apply Kept.drewN | apply Kept.drew) | exact HK.out)⟩, ⟨by repeat (first | (with_reducible first | exact HB.out | apply below_alloc | apply pw_below_drewN | apply below_drew1) | exact HB.out)⟩⟩
              · rw [if_neg c14] at H
                exact absurd H (by simp)
            · rw [if_neg c13] at H
              exact absurd H (by simp)
        · rw [if_neg c5] at H
          exact absurd H (by simp)
      · rw [if_neg c3] at H
        have c3b0 : decide (x4_1 < 9) = false := decide_eq_false c3
        clear c3
        obtain rfl := Option.some.inj H
        go_wp2
        first | go_end0 | ((try simp only [Exit.inBlock, Exit.then]); refine bodyPost_ret (results_none rfl _ _ _) rfl ?_)
        exact ⟨by first | rfl | (simp [errW_none, errW_some] <;> rfl) | (simp [*, errW_none, errW_some] <;> rfl), by (with_reducible repeat (first | apply Kd.R_alloc | apply Kd.R_drewN | apply Kd.R_drew)); exact HO_1.out, by repeat (first | (with_reducible first | exact HB.out | apply below_alloc | apply pw_below_drewN | apply below_drew1) | exact HB.out), by repeat (first | (with_reducible first | exact HK.out | apply Kept.alloc | apply Kept.drewN | apply Kept.drew) | exact HK.out)⟩

end Go.Proofs.YthkddnmomjcdaaaGreat.F
