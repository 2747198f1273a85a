import Derived.Test.YthkddnmomjcdaaaGreatF0
namespace Go.Proofs.YthkddnmomjcdaaaGreat.F
open Go.RowKit Go.Proofs.YthkddnmomjcdaaaGreatW.PrintWords Go.Proofs.YthkddnmomjcdaaaGreatW.PrintLast Go.Proofs.YthkddnmomjcdaaaGreatW.PrintMore
attribute [local go_sem] max2_int min2_int max_two min_two max_three min_three max_four min_four   -- for this text's walks alone
set_option linter.unusedVariables false
set_option linter.unusedSimpArgs false

/-! ### spec_ODRow: function 17 -/
mutual
def spec_ODRow.l0 : Nat → List Bool → List Bool → Int → Int → Int → Option (List Bool)
  | 0, _, _, _, _, _ => none
  | k + 1, x0, x9, x10, x11, x12 => if x12 < (x0.length : Int) then (spec_ODRow.l1 k x0 x9 x10 x11 x12 0) else (some x9)
def spec_ODRow.l1 : Nat → List Bool → List Bool → Int → Int → Int → Int → Option (List Bool)
  | 0, _, _, _, _, _, _ => none
  | k + 1, x0, x9, x10, x11, x12, x13 => if x13 < x10 then (if 0 ≤ x12 then (if x12 < (x0.length : Int) then (if 0 ≤ (wrap64 ((wrap64 (x11 + (wrap64 (x12 * x10)))) + x13)) then (if (wrap64 ((wrap64 (x11 + (wrap64 (x12 * x10)))) + x13)) < (x9.length : Int) then (spec_ODRow.l1 k x0 (x9.set ((wrap64 ((wrap64 (x11 + (wrap64 (x12 * x10)))) + x13)) : Int).toNat (rdOf false x0 x12)) x10 x11 x12 (wrap64 (x13 + 1))) else (none)) else (none)) else (none)) else (none)) else (spec_ODRow.l0 k x0 x9 x10 x11 (wrap64 (x12 + 1)))
end
def spec_ODRow.f (k : Nat) (l0 : List Bool) (a1 : Int) (a2 : Int) : Option (List Bool) := if 0 ≤ (mx a1 (wrap64 ((l0.length : Int) + a2))) then (if (mx a1 (wrap64 ((l0.length : Int) + a2)) : Int).toNat ≤ 281474976710656 then (if (wrap64 ((l0.length : Int) + a2)) = 0 then (none) else (spec_ODRow.l0 k l0 (List.replicate (mx a1 (wrap64 ((l0.length : Int) + a2)) : Int).toNat false) (wrap64 (Int.tdiv (mx a1 (wrap64 ((l0.length : Int) + a2))) (wrap64 ((l0.length : Int) + a2)))) (wrap64 (Int.tdiv (wrap64 ((mx a1 (wrap64 ((l0.length : Int) + a2))) - (wrap64 ((l0.length : Int) * (wrap64 (Int.tdiv (mx a1 (wrap64 ((l0.length : Int) + a2))) (wrap64 ((l0.length : Int) + a2)))))))) 2)) 0)) else (none)) else (none)
theorem spec_ODRow.mono_l : ∀ k, (∀ y0 y1 y2 y3 y4, LeO (spec_ODRow.l0 k y0 y1 y2 y3 y4) (spec_ODRow.l0 (k + 1) y0 y1 y2 y3 y4)) ∧ (∀ y0 y1 y2 y3 y4 y5, LeO (spec_ODRow.l1 k y0 y1 y2 y3 y4 y5) (spec_ODRow.l1 (k + 1) y0 y1 y2 y3 y4 y5))
  | 0 => ⟨fun _ _ _ _ _ r h => by simp [spec_ODRow.l0] at h, fun _ _ _ _ _ _ r h => by simp [spec_ODRow.l1] at h⟩
  | k + 1 => by
    obtain ⟨ih0, ih1⟩ := spec_ODRow.mono_l k
    refine ⟨?_, ?_⟩
    · intro y0 y1 y2 y3 y4
      unfold spec_ODRow.l0
      repeat' first
      | (with_reducible exact ih0 _ _ _ _ _)
      | (with_reducible exact ih1 _ _ _ _ _ _)
      | (with_reducible exact LeO.refl _)
      | (with_reducible exact LeO.none _)
      | (with_reducible refine LeO.ite ?_ ?_)
      | (with_reducible refine LeO.bind ?_ (fun _ => ?_))
      | exact ih0 _ _ _ _ _
      | exact ih1 _ _ _ _ _ _
      | exact LeO.none _
      | refine LeO.ite ?_ ?_
      | refine LeO.bind ?_ (fun _ => ?_)
    · intro y0 y1 y2 y3 y4 y5
      unfold spec_ODRow.l1
      repeat' first
      | (with_reducible exact ih0 _ _ _ _ _)
      | (with_reducible exact ih1 _ _ _ _ _ _)
      | (with_reducible exact LeO.refl _)
      | (with_reducible exact LeO.none _)
      | (with_reducible refine LeO.ite ?_ ?_)
      | (with_reducible refine LeO.bind ?_ (fun _ => ?_))
      | exact ih0 _ _ _ _ _
      | exact ih1 _ _ _ _ _ _
      | exact LeO.none _
      | refine LeO.ite ?_ ?_
      | refine LeO.bind ?_ (fun _ => ?_)
theorem spec_ODRow.mono : ∀ a0 a1 a2 k, LeO (spec_ODRow.f k a0 a1 a2) (spec_ODRow.f (k + 1) a0 a1 a2) := by
  intro a0 a1 a2 k
  obtain ⟨ih0, ih1⟩ := spec_ODRow.mono_l k
  unfold spec_ODRow.f
  repeat' first
      | (with_reducible exact ih0 _ _ _ _ _)
      | (with_reducible exact ih1 _ _ _ _ _ _)
      | (with_reducible exact LeO.refl _)
      | (with_reducible exact LeO.none _)
      | (with_reducible refine LeO.ite ?_ ?_)
      | (with_reducible refine LeO.bind ?_ (fun _ => ?_))
      | exact ih0 _ _ _ _ _
      | exact ih1 _ _ _ _ _ _
      | exact LeO.none _
      | refine LeO.ite ?_ ?_
      | refine LeO.bind ?_ (fun _ => ?_)
set_option maxHeartbeats 8000000 in
set_option maxRecDepth 100000 in
theorem spec_ODRow.calls (k : Nat) (A0 : Option Addr) (c0 : Nat) (l0 : List Bool) (a1 : Int) (a2 : Int) (r : List Bool) (w : World) (hr0 : Kd.C Kd.bool w A0 l0.length l0) (hc0 : l0.length ≤ c0) (h : spec_ODRow.f k l0 a1 a2 = some r) :
    Calls Tryz.prog 17 #[.slice A0 l0.length c0, .int .i64 a1, .int .i64 a2] w fun e w' => ∃ v0_ : Value, e = .returned (v0_) ∧ Kd.R Kd.bool 4 w' w.heap.size (fun _ => True) v0_ r ∧ Below w.heap.size w w' := by
  have HR0 := Aside0.mk hr0
  have HC0 := Aside0.mk hc0
  clear hr0 hc0
  have HB := Aside0.mk (Below.refl w.heap.size w)
  have H : (if 0 ≤ (mx a1 (wrap64 ((l0.length : Int) + a2))) then (if (mx a1 (wrap64 ((l0.length : Int) + a2)) : Int).toNat ≤ 281474976710656 then (if (wrap64 ((l0.length : Int) + a2)) = 0 then (none) else (spec_ODRow.l0 k l0 (List.replicate (mx a1 (wrap64 ((l0.length : Int) + a2)) : Int).toNat false) (wrap64 (Int.tdiv (mx a1 (wrap64 ((l0.length : Int) + a2))) (wrap64 ((l0.length : Int) + a2)))) (wrap64 (Int.tdiv (wrap64 ((mx a1 (wrap64 ((l0.length : Int) + a2))) - (wrap64 ((l0.length : Int) * (wrap64 (Int.tdiv (mx a1 (wrap64 ((l0.length : Int) + a2))) (wrap64 ((l0.length : Int) + a2)))))))) 2)) 0)) else (none)) else (none)) = some r := h
  clear h
  obtain ⟨ji4, hji4⟩ : ∃ j_ : Int, (mx a1 (wrap64 ((l0.length : Int) + a2))) = j_ := ⟨_, rfl⟩
  replace H : (if 0 ≤ (ji4) then (if (ji4 : Int).toNat ≤ 281474976710656 then (if (wrap64 ((l0.length : Int) + a2)) = 0 then (none) else (spec_ODRow.l0 k l0 (List.replicate (ji4 : Int).toNat false) (wrap64 (Int.tdiv (ji4) (wrap64 ((l0.length : Int) + a2)))) (wrap64 (Int.tdiv (wrap64 ((ji4) - (wrap64 ((l0.length : Int) * (wrap64 (Int.tdiv (ji4) (wrap64 ((l0.length : Int) + a2)))))))) 2)) 0)) else (none)) else (none)) = some r := by first | (rw [hji4] at H; exact H) | (simp only [hji4] at H ⊢; exact H)
  have hji4_ : (if a1 < (wrap64 ((l0.length : Int) + a2)) then (wrap64 ((l0.length : Int) + a2)) else a1) = ji4 := hji4
  by_cases c5 : 0 ≤ (ji4)
  · rw [if_pos c5] at H
    have c5b0 := eq_true c5
    have c5b1 : decide (0 ≤ (ji4)) = true := decide_eq_true c5
    clear c5
    by_cases c6 : (ji4 : Int).toNat ≤ 281474976710656
    · rw [if_pos c6] at H
      have c6b0 := eq_true c6
      have c6b1 : decide ((ji4 : Int).toNat ≤ 281474976710656) = true := decide_eq_true c6
      clear c6
      obtain ⟨y123, hy123⟩ : ∃ y_ : List Bool, y_ = (List.replicate (ji4 : Int).toNat false) := ⟨_, rfl⟩
      replace H : (if (wrap64 ((l0.length : Int) + a2)) = 0 then (none) else (spec_ODRow.l0 k l0 y123 (wrap64 (Int.tdiv (ji4) (wrap64 ((l0.length : Int) + a2)))) (wrap64 (Int.tdiv (wrap64 ((ji4) - (wrap64 ((l0.length : Int) * (wrap64 (Int.tdiv (ji4) (wrap64 ((l0.length : Int) + a2)))))))) 2)) 0)) = some r := by first | (rw [hy123]; with_reducible exact H) | (have H2_ := (Option.bind_some _ _).symm.trans H; rw [hy123]; with_reducible exact H2_) | (have H2_ := (Option.bind_some _ _).symm.trans H; with_reducible exact H2_) | with_reducible exact H | (rw [hy123]; exact H) | exact H
      have Ny123 := Aside0.mk hy123
      clear hy123
      by_cases c7 : (wrap64 ((l0.length : Int) + a2)) = 0
      · rw [if_pos c7] at H
        exact absurd H (by simp)
      · rw [if_neg c7] at H
        have c7b0 : ((wrap64 ((l0.length : Int) + a2)) == 0) = false := beq_eq_false_iff_ne.mpr c7
        have c7b1 : ((wrap64 ((l0.length : Int) + a2)) != 0) = true := bne_iff_ne.mpr c7
        have H' := Aside0.mk H
        clear H
        go_enter Tryz.func17, Tryz.ntmps17
        go_wp2_with (first | ((with_reducible refine gate_dst (N := 22) rfl ?_); refine Kd.R_make Kd.bool _ 4 rfl (N := 22) rfl 27 _ _ rfl ji4 rfl rfl Tryz.underlying27 (.bool false) 1 info4 rfl (by decide) (by omega) false (ok := fun _ => True) (okp := fun _ => True) rfl (fun _ hk => hk) trivial (of_decide_eq_true (by first | (with_reducible assumption) | assumption)) (Nat.le_trans (Nat.mul_le_mul_right _ (of_decide_eq_true (by first | (with_reducible assumption) | assumption) : ji4.toNat ≤ 281474976710656)) (by omega)) (Below.refl _ _) (Nat.le_refl _) ?_; intro v124 w8 ho9 hb hg_ hnew_; clear hg_ hnew_; (first | rw [← Ny123.out] at ho9 | (simp only [Int.reduceToNat] at ho9; rw [← Ny123.out] at ho9)); have n0_ := Aside0.mk (Kd.R_lower ho9 (below_size (by repeat (first | (with_reducible first | exact HB.out | apply below_alloc | apply pw_below_drewN | apply below_drew1) | exact HB.out)))); have n1_ := Aside0.mk (below_step (by repeat (first | (with_reducible first | exact HB.out | apply below_alloc | apply pw_below_drewN | apply below_drew1) | exact HB.out)) hb); clear HB; have HO125 := n0_; have HB := n1_; clear n0_ n1_; clear hb ho9))
        go_loopg [12] k (fun kq v12 w' => ∃ (x9_1 : List Bool) (x12_1 : Int), v12 = .int .i64 x12_1 ∧ Aside0 (spec_ODRow.l0 kq l0 x9_1 (wrap64 (Int.tdiv (ji4) (wrap64 ((l0.length : Int) + a2)))) (wrap64 (Int.tdiv (wrap64 ((ji4) - (wrap64 ((l0.length : Int) * (wrap64 (Int.tdiv (ji4) (wrap64 ((l0.length : Int) + a2)))))))) 2)) x12_1 = some r) ∧ Aside0 (kq ≤ k) ∧ Aside0 (Kd.R Kd.bool 4 w' w.heap.size (fun _ => True) v124 x9_1) ∧ Aside0 (Below w.heap.size w w'))
        case atStart => exact ⟨(y123), (0), (by first | rfl | (simp; done) | (simp [*]; done)), H', ⟨Nat.le_refl _⟩, ⟨by (with_reducible repeat (first | apply Kd.R_alloc | apply Kd.R_drewN | apply Kd.R_drew)); exact HO125.out⟩, ⟨by repeat (first | (with_reducible first | exact HB.out | apply below_alloc | apply pw_below_drewN | apply below_drew1) | exact HB.out)⟩⟩
        case round =>
          clear H'
          try clear c1
          try clear p2
          try clear c5
          try clear c5b0
          try clear c5b1
          try clear c6
          try clear c6b0
          try clear c6b1
          try clear p6
          try clear c7
          try clear c7b0
          try clear c7b1
          obtain ⟨x9_1, x12_1, rfl, HA, HK1, HO_9, HB⟩ := hrel
          cases gk with
          | zero => exact absurd HA.out (by simp [spec_ODRow.l0])
          | succ k1 =>
            have H := HA.out
            clear HA
            simp only [spec_ODRow.l0] at H
            by_cases c10 : x12_1 < (l0.length : Int)
            · rw [if_pos c10] at H
              have c10b0 : decide (x12_1 < (l0.length : Int)) = true := decide_eq_true c10
              clear c10
              have H' := Aside0.mk H
              clear H
              go_wp2
              go_loopg [13] k1 (fun kq v13 w' => ∃ (x9_2 : List Bool) (x13_2 : Int), v13 = .int .i64 x13_2 ∧ Aside0 (spec_ODRow.l1 kq l0 x9_2 (wrap64 (Int.tdiv (ji4) (wrap64 ((l0.length : Int) + a2)))) (wrap64 (Int.tdiv (wrap64 ((ji4) - (wrap64 ((l0.length : Int) * (wrap64 (Int.tdiv (ji4) (wrap64 ((l0.length : Int) + a2)))))))) 2)) x12_1 x13_2 = some r) ∧ Aside0 (kq ≤ k1) ∧ Aside0 (Kd.R Kd.bool 4 w' w.heap.size (fun _ => True) v124 x9_2) ∧ Aside0 (Below w.heap.size w w'))
              case atStart => exact ⟨(x9_1), (0), (by first | rfl | (simp; done) | (simp [*]; done)), H', ⟨Nat.le_refl _⟩, ⟨by (with_reducible repeat (first | apply Kd.R_alloc | apply Kd.R_drewN | apply Kd.R_drew)); exact HO_9.out⟩, ⟨by repeat (first | (with_reducible first | exact HB.out | apply below_alloc | apply pw_below_drewN | apply below_drew1) | exact HB.out)⟩⟩
              case round =>
                clear H'
                try clear c1
                try clear p2
                try clear c5
                try clear c5b0
                try clear c5b1
                try clear c6
                try clear c6b0
                try clear c6b1
                try clear p6
                try clear c7
                try clear c7b0
                try clear c7b1
                try clear c10
                try clear c10b0
                try clear p2
                try clear p6
                obtain ⟨x9_2, x13_2, rfl, HA, HK2, HO_9, HB⟩ := hrel
                cases gk with
                | zero => exact absurd HA.out (by simp [spec_ODRow.l1])
                | succ k2 =>
                  have H := HA.out
                  clear HA
                  simp only [spec_ODRow.l1] at H
                  by_cases c11 : x13_2 < (wrap64 (Int.tdiv (ji4) (wrap64 ((l0.length : Int) + a2))))
                  · rw [if_pos c11] at H
                    have c11b0 : decide (x13_2 < (wrap64 (Int.tdiv (ji4) (wrap64 ((l0.length : Int) + a2))))) = true := decide_eq_true c11
                    clear c11
                    by_cases c12 : 0 ≤ x12_1
                    · rw [if_pos c12] at H
                      have c12b0 : decide (0 ≤ x12_1) = true := decide_eq_true c12
                      clear c12
                      by_cases c13 : x12_1 < (l0.length : Int)
                      · rw [if_pos c13] at H
                        have c13b0 : decide (x12_1 < (l0.length : Int)) = true := decide_eq_true c13
                        clear c13
                        obtain ⟨ji14, hji14⟩ : ∃ j_ : Int, (wrap64 ((wrap64 ((wrap64 (Int.tdiv (wrap64 ((ji4) - (wrap64 ((l0.length : Int) * (wrap64 (Int.tdiv (ji4) (wrap64 ((l0.length : Int) + a2)))))))) 2)) + (wrap64 (x12_1 * (wrap64 (Int.tdiv (ji4) (wrap64 ((l0.length : Int) + a2)))))))) + x13_2)) = j_ := ⟨_, rfl⟩
                        replace H : (if 0 ≤ (ji14) then (if (ji14) < (x9_2.length : Int) then (spec_ODRow.l1 k2 l0 (x9_2.set ((ji14) : Int).toNat (rdOf false l0 x12_1)) (wrap64 (Int.tdiv (ji4) (wrap64 ((l0.length : Int) + a2)))) (wrap64 (Int.tdiv (wrap64 ((ji4) - (wrap64 ((l0.length : Int) * (wrap64 (Int.tdiv (ji4) (wrap64 ((l0.length : Int) + a2)))))))) 2)) x12_1 (wrap64 (x13_2 + 1))) else (none)) else (none)) = some r := by first | (rw [hji14] at H; exact H) | (simp only [hji14] at H ⊢; exact H)
                        have hji14w : (IntKind.i64.wrap ((wrap64 ((wrap64 (Int.tdiv (wrap64 ((ji4) - (wrap64 ((l0.length : Int) * (wrap64 (Int.tdiv (ji4) (wrap64 ((l0.length : Int) + a2)))))))) 2)) + (wrap64 (x12_1 * (wrap64 (Int.tdiv (ji4) (wrap64 ((l0.length : Int) + a2)))))))) + x13_2)) = ji14 := (i64_w _).trans hji14
                        by_cases c15 : 0 ≤ (ji14)
                        · rw [if_pos c15] at H
                          have c15b0 : decide (0 ≤ (ji14)) = true := decide_eq_true c15
                          clear c15
                          by_cases c16 : (ji14) < (x9_2.length : Int)
                          · rw [if_pos c16] at H
                            have c16b0 : decide ((ji14) < (x9_2.length : Int)) = true := decide_eq_true c16
                            clear c16
                            obtain ⟨y127, hy127⟩ : ∃ y_ : List Bool, y_ = (x9_2.set ((ji14) : Int).toNat (rdOf false l0 x12_1)) := ⟨_, rfl⟩
                            replace H : (spec_ODRow.l1 k2 l0 y127 (wrap64 (Int.tdiv (ji4) (wrap64 ((l0.length : Int) + a2)))) (wrap64 (Int.tdiv (wrap64 ((ji4) - (wrap64 ((l0.length : Int) * (wrap64 (Int.tdiv (ji4) (wrap64 ((l0.length : Int) + a2)))))))) 2)) x12_1 (wrap64 (x13_2 + 1))) = some r := by first | (rw [hy127]; with_reducible exact H) | (have H2_ := (Option.bind_some _ _).symm.trans H; rw [hy127]; with_reducible exact H2_) | (have H2_ := (Option.bind_some _ _).symm.trans H; with_reducible exact H2_) | with_reducible exact H | (rw [hy127]; exact H) | exact H
                            have Ny127 := Aside0.mk hy127
                            clear hy127
                            have H' := Aside0.mk H
                            clear H
                            have p126 : 0 ≤ (x12_1 : Int) := of_decide_eq_true (by first | (with_reducible assumption) | assumption)
                            have q126 : x12_1 < (l0.length : Int) := of_decide_eq_true (by first | (with_reducible assumption) | assumption)
                            obtain ⟨ad126, e126, hx126_0⟩ := Kd.at_bool HR0.out x12_1 p126 q126
                            cases e126
                            replace hx126_0 := (HB.out.cell (World.block_lt_of_cell? w _ hx126_0)).trans hx126_0
                            replace p126 := eq_true p126
                            replace q126 := eq_true q126
                            have p17 : 0 ≤ ((ji14) : Int) := of_decide_eq_true (by first | (with_reducible assumption) | assumption)
                            have q17 : ((ji14) : Int) < ((x9_2.length : Int) : Int) := of_decide_eq_true (by first | (with_reducible assumption) | assumption)
                            obtain ⟨go17, co17, eo17, gb17, gl17, cl17, HG17⟩ := Kd.R_form HO_9.out (by omega)
                            (first | cases eo17 | (injection eo17 with ea_ en_ ec_; (first | subst ea_ | (injection ea_ with ea_; subst ea_)); subst ec_; clear en_))
                            have GB17 := Aside0.mk gb17
                            have GG17 := Aside0.mk HG17
                            clear gb17 gl17 HG17
                            obtain ⟨hx17_0, hf17_0⟩ := Kd.R_celln false HO_9.out ((ji14) : Int) p17 q17
                            replace p17 := eq_true p17
                            replace q17 := eq_true q17
                            have HP18 := Kd.R_putg HO_9.out ((ji14) : Int) (rdOf false l0 x12_1)
                            go_wp2_with (first | ((with_reducible refine gate_store (t := 4) (p := 56) rfl ?_); refine store_event (t := 4) (p := 56) (v := ?vo_w19) (w1 := (wr.setCell ⟨go17, ((ji14) : Int).toNat, none⟩ (.bool (rdOf false l0 x12_1)))) ?hg ?ho ?hn ?hr ?_; (case ho => rfl); (case hg => rfl); (case hn => rfl); (case hr => first | (go_simp; done) | (go_simp; rfl)); intro w19 hw; have hg : wr.grownBy w19 (some go17) := (by rw [hw]; exact HP18.2); have hp_ : Kd.R Kd.bool 4 w19 w.heap.size (fun _ => True) (.slice (some ⟨go17, 0, none⟩) x9_2.length co17) y127 := (by rw [hw, Ny127.out]; exact HP18.1); clear HP18; have n0_ := Aside0.mk (hp_); have n1_ := Aside0.mk ((by rw [hw]; exact below_set (HB.out) GB17.out : Below w.heap.size w w19)); clear HO_9; clear HB; have HO_9 := n0_; have HB := n1_; clear n0_ n1_; clear hg hw hp_))
                            go_roundg k2
                            case measure => have := HK1.out; have := HK2.out; omega
                            case rel => exact ⟨(y127), (wrap64 (x13_2 + 1)), (by first | rfl | (simp; done) | (simp [*]; done)), H', ⟨by have := HK1.out; have := HK2.out; omega⟩, ⟨by (with_reducible repeat (first | apply Kd.R_alloc | apply Kd.R_drewN | apply Kd.R_drew)); exact HO_9.out⟩, ⟨by repeat (first | (with_reducible first | exact HB.out | apply below_alloc | apply pw_below_drewN | apply below_drew1) | exact HB.out)⟩⟩
                          · rw [if_neg c16] at H
                            exact absurd H (by simp)
                        · rw [if_neg c15] at H
                          exact absurd H (by simp)
                      · rw [if_neg c13] at H
                        exact absurd H (by simp)
                    · rw [if_neg c12] at H
                      exact absurd H (by simp)
                  · rw [if_neg c11] at H
                    have c11b0 : decide (x13_2 < (wrap64 (Int.tdiv (ji4) (wrap64 ((l0.length : Int) + a2))))) = false := decide_eq_false c11
                    clear c11
                    have H' := Aside0.mk H
                    clear H
                    go_wp2
                    go_roundg k2
                    case measure => have := HK1.out; have := HK2.out; omega
                    case rel => exact ⟨(x9_2), (wrap64 (x12_1 + 1)), (by first | rfl | (simp; done) | (simp [*]; done)), H', ⟨by have := HK1.out; have := HK2.out; omega⟩, ⟨by (with_reducible repeat (first | apply Kd.R_alloc | apply Kd.R_drewN | apply Kd.R_drew)); exact HO_9.out⟩, ⟨by repeat (first | (with_reducible first | exact HB.out | apply below_alloc | apply pw_below_drewN | apply below_drew1) | exact HB.out)⟩⟩
            · rw [if_neg c10] at H
              have c10b0 : decide (x12_1 < (l0.length : Int)) = false := decide_eq_false c10
              clear c10
              obtain rfl := Option.some.inj H
              go_wp2
              go_ret
              exact ⟨_, by first | rfl | (simp [errW_none, errW_some] <;> rfl) | (simp only [← hji4]; first | rfl | (simp [errW_none, errW_some] <;> rfl)) | (simp [*, errW_none, errW_some] <;> rfl), by (with_reducible repeat (first | apply Kd.R_alloc | apply Kd.R_drewN | apply Kd.R_drew)); exact HO_9.out, by repeat (first | (with_reducible first | exact HB.out | apply below_alloc | apply pw_below_drewN | apply below_drew1) | exact HB.out)⟩
    · rw [if_neg c6] at H
      exact absurd H (by simp)
  · rw [if_neg c5] at H
    exact absurd H (by simp)

end Go.Proofs.YthkddnmomjcdaaaGreat.F
