import Derived.Test.YthkddnmomjcdaaaGreatF0
namespace Go.Proofs.YthkddnmomjcdaaaGreat.F
open Go.RowKit Go.Proofs.YthkddnmomjcdaaaGreatW.PrintWords Go.Proofs.YthkddnmomjcdaaaGreatW.PrintLast Go.Proofs.YthkddnmomjcdaaaGreatW.PrintMore
attribute [local go_sem] max2_int min2_int max_two min_two max_three min_three max_four min_four   -- for this text's walks alone
set_option linter.unusedVariables false
set_option linter.unusedSimpArgs false

/-! ### spec_odBars: function 66 -/
mutual
def spec_odBars.l0 : Nat → List Bool → ByteArray → Bool → Int → Int → Option (List Bool)
  | 0, _, _, _, _, _ => none
  | k + 1, x0, x1, x2, x9, x10 => if x10 < x9 then (if 0 ≤ x10 then (if x10 < (x1.size : Int) then (spec_odBars.l1 k x0 x1 x2 x9 x10 (((bt x1 x10) - 48) % 256) 0) else (none)) else (none)) else (some x0)
def spec_odBars.l1 : Nat → List Bool → ByteArray → Bool → Int → Int → Int → Int → Option (List Bool)
  | 0, _, _, _, _, _, _, _ => none
  | k + 1, x0, x1, x2, x9, x10, x16, x17 => if x17 < x16 then (if x0.length < 140737488355328 then (spec_odBars.l1 k (x0 ++ [x2]) x1 x2 x9 x10 x16 ((x17 + 1) % 256)) else (none)) else (spec_odBars.l0 k x0 x1 (!x2) x9 (wrap64 (x10 + 1)))
end
def spec_odBars.f (k : Nat) (l0 : List Bool) (a1 : ByteArray) (a2 : Bool) : Option (List Bool) := spec_odBars.l0 k l0 a1 a2 (a1.size : Int) 0
theorem spec_odBars.mono_l : ∀ k, (∀ y0 y1 y2 y3 y4, LeO (spec_odBars.l0 k y0 y1 y2 y3 y4) (spec_odBars.l0 (k + 1) y0 y1 y2 y3 y4)) ∧ (∀ y0 y1 y2 y3 y4 y5 y6, LeO (spec_odBars.l1 k y0 y1 y2 y3 y4 y5 y6) (spec_odBars.l1 (k + 1) y0 y1 y2 y3 y4 y5 y6))
  | 0 => ⟨fun _ _ _ _ _ r h => by simp [spec_odBars.l0] at h, fun _ _ _ _ _ _ _ r h => by simp [spec_odBars.l1] at h⟩
  | k + 1 => by
    obtain ⟨ih0, ih1⟩ := spec_odBars.mono_l k
    refine ⟨?_, ?_⟩
    · intro y0 y1 y2 y3 y4
      unfold spec_odBars.l0
      repeat' first
      | (with_reducible exact ih0 _ _ _ _ _)
      | (with_reducible exact ih1 _ _ _ _ _ _ _)
      | (with_reducible exact LeO.refl _)
      | (with_reducible exact LeO.none _)
      | (with_reducible refine LeO.ite ?_ ?_)
      | (with_reducible refine LeO.bind ?_ (fun _ => ?_))
      | exact ih0 _ _ _ _ _
      | exact ih1 _ _ _ _ _ _ _
      | exact LeO.none _
      | refine LeO.ite ?_ ?_
      | refine LeO.bind ?_ (fun _ => ?_)
    · intro y0 y1 y2 y3 y4 y5 y6
      unfold spec_odBars.l1
      repeat' first
      | (with_reducible exact ih0 _ _ _ _ _)
      | (with_reducible exact ih1 _ _ _ _ _ _ _)
      | (with_reducible exact LeO.refl _)
      | (with_reducible exact LeO.none _)
      | (with_reducible refine LeO.ite ?_ ?_)
      | (with_reducible refine LeO.bind ?_ (fun _ => ?_))
      | exact ih0 _ _ _ _ _
      | exact ih1 _ _ _ _ _ _ _
      | exact LeO.none _
      | refine LeO.ite ?_ ?_
      | refine LeO.bind ?_ (fun _ => ?_)
theorem spec_odBars.mono : ∀ a0 a1 a2 k, LeO (spec_odBars.f k a0 a1 a2) (spec_odBars.f (k + 1) a0 a1 a2) := by
  intro a0 a1 a2 k
  obtain ⟨ih0, ih1⟩ := spec_odBars.mono_l k
  unfold spec_odBars.f
  repeat' first
      | (with_reducible exact ih0 _ _ _ _ _)
      | (with_reducible exact ih1 _ _ _ _ _ _ _)
      | (with_reducible exact LeO.refl _)
      | (with_reducible exact LeO.none _)
      | (with_reducible refine LeO.ite ?_ ?_)
      | (with_reducible refine LeO.bind ?_ (fun _ => ?_))
      | exact ih0 _ _ _ _ _
      | exact ih1 _ _ _ _ _ _ _
      | exact LeO.none _
      | refine LeO.ite ?_ ?_
      | refine LeO.bind ?_ (fun _ => ?_)
set_option maxHeartbeats 8000000 in
set_option maxRecDepth 100000 in
theorem spec_odBars.calls (k : Nat) (P0_ : Nat → Prop) (u9000_ : Value) (l0 : List Bool) (a1 : ByteArray) (a2 : Bool) (r : List Bool) (w0 w : World) (hB : Below w0.heap.size w0 w) (ho0 : Kd.R Kd.bool 4 w w0.heap.size P0_ u9000_ l0) (h : spec_odBars.f k l0 a1 a2 = some r) :
    Calls Tryz.prog 66 #[u9000_, .string a1, .bool a2] w fun e w' => ∃ v0_ : Value, e = .returned (v0_) ∧ Kd.R Kd.bool 4 w' w0.heap.size (fun k_ => (P0_ k_ ∨ w.heap.size ≤ k_)) v0_ r ∧ Below w0.heap.size w0 w' ∧ Kept w w' (fun k_ => P0_ k_) := by
  have HO0 := Aside0.mk (show Kd.R Kd.bool 4 w w0.heap.size (fun k_ => (P0_ k_ ∨ w.heap.size ≤ k_)) u9000_ l0 from Kd.R_mono ho0 (fun k_ hk => (.inl hk)))
  have HK := Aside0.mk (Kept.refl w (fun k_ => P0_ k_))
  have HW0 := Aside0.mk hB.size
  have HB := Aside0.mk hB
  clear hB
  have H : (spec_odBars.l0 k l0 a1 a2 (a1.size : Int) 0) = some r := h
  clear h
  have H' := Aside0.mk H
  clear H
  go_enter Tryz.func66, Tryz.ntmps66
  go_wp2
  go_loopg [0, 2, 10] k (fun kq v0 v2 v10 w' => ∃ (x0_1 : List Bool) (x2_1 : Bool) (x10_1 : Int), v2 = .bool x2_1 ∧ v10 = .int .i64 x10_1 ∧ Aside0 (spec_odBars.l0 kq x0_1 a1 x2_1 (a1.size : Int) x10_1 = some r) ∧ Aside0 (kq ≤ k) ∧ Aside0 (Kd.R Kd.bool 4 w' w0.heap.size (fun k_ => (P0_ k_ ∨ w.heap.size ≤ k_)) v0 x0_1) ∧ Aside0 (Kept w w' (fun k_ => P0_ k_)) ∧ Aside0 (Below w0.heap.size w0 w'))
  case atStart => exact ⟨(l0), (a2), (0), (by first | rfl | (simp; done) | (simp [*]; done)), (by first | rfl | (simp; done) | (simp [*]; done)), H', ⟨Nat.le_refl _⟩, ⟨by (with_reducible repeat (first | apply Kd.R_alloc | apply Kd.R_drewN | apply Kd.R_drew)); exact HO0.out⟩, ⟨by repeat (first | (with_reducible first | exact HK.out | apply Kept.alloc | apply Kept.drewN | apply Kept.drew) | exact HK.out)⟩, ⟨by repeat (first | (with_reducible first | exact HB.out | apply below_alloc | apply pw_below_drewN | apply below_drew1) | exact HB.out)⟩⟩
  case round =>
    clear H'
    try clear p2
    obtain ⟨x0_1, x2_1, x10_1, rfl, rfl, HA, HK1, HO_0, HK, HB⟩ := hrel
    cases gk with
    | zero => exact absurd HA.out (by simp [spec_odBars.l0])
    | succ k1 =>
      have H := HA.out
      clear HA
      simp only [spec_odBars.l0] at H
      by_cases c4 : x10_1 < (a1.size : Int)
      · rw [if_pos c4] at H
        have c4b0 : decide (x10_1 < (a1.size : Int)) = true := decide_eq_true c4
        clear c4
        by_cases c5 : 0 ≤ x10_1
        · rw [if_pos c5] at H
          have c5b0 : decide (0 ≤ x10_1) = true := decide_eq_true c5
          clear c5
          by_cases c6 : x10_1 < (a1.size : Int)
          · rw [if_pos c6] at H
            have c6b0 : decide (x10_1 < (a1.size : Int)) = true := decide_eq_true c6
            clear c6
            have H' := Aside0.mk H
            clear H
            have p7 : 0 ≤ (x10_1 : Int) := of_decide_eq_true (by first | (with_reducible assumption) | assumption)
            have q7 : x10_1 < (a1.size : Int) := of_decide_eq_true (by first | (with_reducible assumption) | assumption)
            have hx7 := bt_at a1 x10_1
            replace p7 := eq_true p7
            replace q7 := eq_true q7
            go_wp2
            go_loopg [0, 17] k1 (fun kq v0 v17 w' => ∃ (x0_2 : List Bool) (x17_2 : Int), v17 = .int .u8 x17_2 ∧ Aside0 (spec_odBars.l1 kq x0_2 a1 x2_1 (a1.size : Int) x10_1 (((bt a1 x10_1) - 48) % 256) x17_2 = some r) ∧ Aside0 (kq ≤ k1) ∧ Aside0 (Kd.R Kd.bool 4 w' w0.heap.size (fun k_ => (P0_ k_ ∨ w.heap.size ≤ k_)) v0 x0_2) ∧ Aside0 (Kept w w' (fun k_ => P0_ k_)) ∧ Aside0 (Below w0.heap.size w0 w'))
            case atStart => exact ⟨(x0_1), (0), (by first | rfl | (simp; done) | (simp [*]; done)), H', ⟨Nat.le_refl _⟩, ⟨by (with_reducible repeat (first | apply Kd.R_alloc | apply Kd.R_drewN | apply Kd.R_drew)); exact HO_0.out⟩, ⟨by repeat (first | (with_reducible first | exact HK.out | apply Kept.alloc | apply Kept.drewN | apply Kept.drew) | exact HK.out)⟩, ⟨by repeat (first | (with_reducible first | exact HB.out | apply below_alloc | apply pw_below_drewN | apply below_drew1) | exact HB.out)⟩⟩
            case round =>
              clear H'
              try clear p2
              try clear c4
              try clear c4b0
              try clear c5
              try clear c5b0
              try clear c6
              try clear c6b0
              try clear p7
              try clear q7
              try clear hx7
              try clear p2
              try clear p7
              try clear q7
              obtain ⟨x0_2, x17_2, rfl, HA, HK2, HO_0, HK, HB⟩ := hrel
              cases gk with
              | zero => exact absurd HA.out (by simp [spec_odBars.l1])
              | succ k2 =>
                have H := HA.out
                clear HA
                simp only [spec_odBars.l1] at H
                by_cases c8 : x17_2 < (((bt a1 x10_1) - 48) % 256)
                · rw [if_pos c8] at H
                  have c8b0 : decide (x17_2 < (((bt a1 x10_1) - 48) % 256)) = true := decide_eq_true c8
                  clear c8
                  by_cases c9 : x0_2.length < 140737488355328
                  · rw [if_pos c9] at H
                    have LMc9 := Aside0.mk c9
                    clear c9
                    obtain ⟨y284, hy284⟩ : ∃ y_ : List Bool, y_ = (x0_2 ++ [x2_1]) := ⟨_, rfl⟩
                    replace H : (spec_odBars.l1 k2 y284 a1 x2_1 (a1.size : Int) x10_1 (((bt a1 x10_1) - 48) % 256) ((x17_2 + 1) % 256)) = some r := by first | (rw [hy284]; with_reducible exact H) | (have H2_ := (Option.bind_some _ _).symm.trans H; rw [hy284]; with_reducible exact H2_) | (have H2_ := (Option.bind_some _ _).symm.trans H; with_reducible exact H2_) | with_reducible exact H | (rw [hy284]; exact H) | exact H
                    have Ny284 := Aside0.mk hy284
                    clear hy284
                    have H' := Aside0.mk H
                    clear H
                    go_wp2_with (first | ((with_reducible refine gate_builtin (b := .append) (xs := #[.tmp 19, .tmp 21]) rfl ?_); at_builtin; refine Kd.R_append Kd.bool (w0 := w0) w0.heap.size rfl (.tmp 19) (.tmp 21) 27 4 (.bool false) 1 rfl Tryz.underlying27 info4 rfl (by decide) (by omega) u0 x0_2 x2_1 [.bool x2_1] (fun k_ => (P0_ k_ ∨ w.heap.size ≤ k_)) (fun _ => False) rfl rfl ?aP (fun _ hk => hk.elim) ?aF ?aO ?aB ?aS ?aL ?_; (case aP => exact rfl); (case aB => exact (by repeat (first | (with_reducible first | exact HB.out | apply below_alloc | apply pw_below_drewN | apply below_drew1) | exact HB.out))); (case aF => exact (fun k_ hk => (.inr (Nat.le_trans (by first | exact HK.out.1 | exact (show Kept w _ (fun k_ => P0_ k_) from by repeat (first | (with_reducible first | exact HK.out | apply Kept.alloc | apply Kept.drewN | apply Kept.drew) | exact HK.out)).1) hk)))); (case aO => exact (by (with_reducible repeat (first | apply Kd.R_alloc | apply Kd.R_drewN | apply Kd.R_drew)); exact HO_0.out)); (case aS => exact (below_size (by repeat (first | (with_reducible first | exact HB.out | apply below_alloc | apply pw_below_drewN | apply below_drew1) | exact HB.out)))); (case aL => have := LMc9.out; omega); intro v285 w10 ho hb hg hat; rw [← Ny284.out] at ho; have n0_ := Aside0.mk (hb); have n1_ := Aside0.mk (Kept.of_grown (S := (fun k_ => P0_ k_)) hg (by repeat (first | (with_reducible first | exact HK.out | apply Kept.alloc | apply Kept.drewN | apply Kept.drew) | exact HK.out)) (fun k_ e_ => (HO_0.out.1 k_ e_))); have n2_ := Aside0.mk (ho); clear HB; clear HK; clear HO_0; have HB := n0_; have HK := n1_; have HO286 := n2_; clear n0_ n1_ n2_; clear ho hb hg hat))
                    go_roundg k2
                    case measure => have := HK1.out; have := HK2.out; omega
                    case rel => exact ⟨(y284), ((x17_2 + 1) % 256), (by first | rfl | (simp; done) | (simp [*]; done)), H', ⟨by have := HK1.out; have := HK2.out; omega⟩, ⟨by (with_reducible repeat (first | apply Kd.R_alloc | apply Kd.R_drewN | apply Kd.R_drew)); exact HO286.out⟩, ⟨by repeat (first | (with_reducible first | exact HK.out | apply Kept.alloc | apply Kept.drewN | apply Kept.drew) | exact HK.out)⟩, ⟨by repeat (first | (with_reducible first | exact HB.out | apply below_alloc | apply pw_below_drewN | apply below_drew1) | exact HB.out)⟩⟩
                  · rw [if_neg c9] at H
                    exact absurd H (by simp)
                · rw [if_neg c8] at H
                  have c8b0 : decide (x17_2 < (((bt a1 x10_1) - 48) % 256)) = false := decide_eq_false c8
                  clear c8
                  have H' := Aside0.mk H
                  clear H
                  go_wp2
                  go_roundg k2
                  case measure => have := HK1.out; have := HK2.out; omega
                  case rel => exact ⟨(x0_2), (!x2_1), (wrap64 (x10_1 + 1)), (by first | rfl | (simp; done) | (simp [*]; done)), (by first | rfl | (simp; done) | (simp [*]; done)), H', ⟨by have := HK1.out; have := HK2.out; omega⟩, ⟨by (with_reducible repeat (first | apply Kd.R_alloc | apply Kd.R_drewN | apply Kd.R_drew)); exact HO_0.out⟩, ⟨by repeat (first | (with_reducible first | exact HK.out | apply Kept.alloc | apply Kept.drewN | apply Kept.drew) | exact HK.out)⟩, ⟨by repeat (first | (with_reducible first | exact HB.out | apply below_alloc | apply pw_below_drewN | apply below_drew1) | exact HB.out)⟩⟩
          · rw [if_neg c6] at H
            exact absurd H (by simp)
        · rw [if_neg c5] at H
          exact absurd H (by simp)
      · rw [if_neg c4] at H
        have c4b0 : decide (x10_1 < (a1.size : Int)) = false := decide_eq_false c4
        clear c4
        obtain rfl := Option.some.inj H
        go_wp2
        go_ret
        exact ⟨_, by first | rfl | (simp [errW_none, errW_some] <;> rfl) | (simp [*, errW_none, errW_some] <;> rfl), by (with_reducible repeat (first | apply Kd.R_alloc | apply Kd.R_drewN | apply Kd.R_drew)); exact HO_0.out, by repeat (first | (with_reducible first | exact HB.out | apply below_alloc | apply pw_below_drewN | apply below_drew1) | exact HB.out), by repeat (first | (with_reducible first | exact HK.out | apply Kept.alloc | apply Kept.drewN | apply Kept.drew) | exact HK.out)⟩

-- NOT PRINTED: function 67 (spec_odSetsE)

end Go.Proofs.YthkddnmomjcdaaaGreat.F
