import Derived.Test.YthkddnmomjcdaaaGreatGc930
namespace Go.Proofs.YthkddnmomjcdaaaGreat.F
open Go.RowKit Go.Proofs.YthkddnmomjcdaaaGreatW.PrintWords Go.Proofs.YthkddnmomjcdaaaGreatW.PrintLast Go.Proofs.YthkddnmomjcdaaaGreatW.PrintMore
attribute [local go_sem] max2_int min2_int max_two min_two max_three min_three max_four min_four   -- for this text's walks alone
set_option linter.unusedVariables false
set_option linter.unusedSimpArgs false

/-! ### spec_OD93: function 18 -/
mutual
def spec_OD93.l0 : Nat → ByteArray → List Int → Int → Option (List Bool)
  | 0, _, _, _ => none
  | k + 1, x0, x3, x4 => if x4 < (x0.size : Int) then (if 0 ≤ x4 then ((spec_odAt.f k (⟨#[48, 49, 50, 51, 52, 53, 54, 55, 56, 57, 65, 66, 67, 68, 69, 70, 71, 72, 73, 74, 75, 76, 77, 78, 79, 80, 81, 82, 83, 84, 85, 86, 87, 88, 89, 90, 45, 46, 32, 36, 47, 43, 37, 97, 98, 99, 100]⟩ : ByteArray) (bt x0 x4)).bind fun t145 => (if x3.length < 17592186044416 then (spec_OD93.l0 k x0 (x3 ++ [t145]) (wrap64 (x4 + 1))) else (none))) else (none)) else ((some (([47] : List Int) : List Int)).bind fun y149 => (if y149.length + x3.length < 17592186044416 then ((some (y149 ++ x3 : List Int)).bind fun y152 => ((spec_OD93Checks.f k x3).bind fun t155 => (if y152.length + t155.length < 17592186044416 then ((some (y152 ++ t155 : List Int)).bind fun y158 => (if y158.length < 17592186044416 then (spec_OD93.l1 k (y158 ++ [47]) ([] : List Bool) 0) else (none))) else (none)))) else (none)))
def spec_OD93.l1 : Nat → List Int → List Bool → Int → Option (List Bool)
  | 0, _, _, _ => none
  | k + 1, x5, x6, x7 => if x7 < (x5.length : Int) then (spec_OD93.l2 k x5 x6 x7 8) else (if x6.length < 140737488355328 then (some (x6 ++ [true])) else (none))
def spec_OD93.l2 : Nat → List Int → List Bool → Int → Int → Option (List Bool)
  | 0, _, _, _, _ => none
  | k + 1, x5, x6, x7, x8 => if x8 ≥ 0 then (if 0 ≤ x7 then (if x7 < (x5.length : Int) then ((spec_od93Bits.f (rd x5 x7)).bind fun t168 => (if 0 ≤ (IntKind.u64.wrap (x8)) then (if x6.length < 140737488355328 then (spec_OD93.l2 k x5 (x6 ++ [((Go.bits .and .i64 (shr .i64 t168 (IntKind.u64.wrap (x8))) 1) == 1)]) x7 (wrap64 (x8 - 1))) else (none)) else (none))) else (none)) else (none)) else (spec_OD93.l1 k x5 x6 (wrap64 (x7 + 1)))
end
def spec_OD93.f (k : Nat) (a0 : ByteArray) : Option (List Bool) := spec_OD93.l0 k a0 ([] : List Int) 0
theorem spec_OD93.mono_l : ∀ k, (∀ y0 y1 y2, LeO (spec_OD93.l0 k y0 y1 y2) (spec_OD93.l0 (k + 1) y0 y1 y2)) ∧ (∀ y0 y1 y2, LeO (spec_OD93.l1 k y0 y1 y2) (spec_OD93.l1 (k + 1) y0 y1 y2)) ∧ (∀ y0 y1 y2 y3, LeO (spec_OD93.l2 k y0 y1 y2 y3) (spec_OD93.l2 (k + 1) y0 y1 y2 y3))
  | 0 => ⟨fun _ _ _ r h => by simp [spec_OD93.l0] at h, fun _ _ _ r h => by simp [spec_OD93.l1] at h, fun _ _ _ _ r h => by simp [spec_OD93.l2] at h⟩
  | k + 1 => by
    obtain ⟨ih0, ih1, ih2⟩ := spec_OD93.mono_l k
    refine ⟨?_, ?_, ?_⟩
    · intro y0 y1 y2
      unfold spec_OD93.l0
      repeat' first
      | (with_reducible exact ih0 _ _ _)
      | (with_reducible exact ih1 _ _ _)
      | (with_reducible exact ih2 _ _ _ _)
      | (with_reducible exact spec_OD93Checks.mono _ _)
      | (with_reducible exact spec_odAt.mono _ _ _)
      | (with_reducible exact LeO.refl _)
      | (with_reducible exact LeO.none _)
      | (with_reducible refine LeO.ite ?_ ?_)
      | (with_reducible refine LeO.bind ?_ (fun _ => ?_))
      | exact ih0 _ _ _
      | exact ih1 _ _ _
      | exact ih2 _ _ _ _
      | exact spec_OD93Checks.mono _ _
      | exact spec_odAt.mono _ _ _
      | exact LeO.none _
      | refine LeO.ite ?_ ?_
      | refine LeO.bind ?_ (fun _ => ?_)
    · intro y0 y1 y2
      unfold spec_OD93.l1
      repeat' first
      | (with_reducible exact ih0 _ _ _)
      | (with_reducible exact ih1 _ _ _)
      | (with_reducible exact ih2 _ _ _ _)
      | (with_reducible exact spec_OD93Checks.mono _ _)
      | (with_reducible exact spec_odAt.mono _ _ _)
      | (with_reducible exact LeO.refl _)
      | (with_reducible exact LeO.none _)
      | (with_reducible refine LeO.ite ?_ ?_)
      | (with_reducible refine LeO.bind ?_ (fun _ => ?_))
      | exact ih0 _ _ _
      | exact ih1 _ _ _
      | exact ih2 _ _ _ _
      | exact spec_OD93Checks.mono _ _
      | exact spec_odAt.mono _ _ _
      | exact LeO.none _
      | refine LeO.ite ?_ ?_
      | refine LeO.bind ?_ (fun _ => ?_)
    · intro y0 y1 y2 y3
      unfold spec_OD93.l2
      repeat' first
      | (with_reducible exact ih0 _ _ _)
      | (with_reducible exact ih1 _ _ _)
      | (with_reducible exact ih2 _ _ _ _)
      | (with_reducible exact spec_OD93Checks.mono _ _)
      | (with_reducible exact spec_odAt.mono _ _ _)
      | (with_reducible exact LeO.refl _)
      | (with_reducible exact LeO.none _)
      | (with_reducible refine LeO.ite ?_ ?_)
      | (with_reducible refine LeO.bind ?_ (fun _ => ?_))
      | exact ih0 _ _ _
      | exact ih1 _ _ _
      | exact ih2 _ _ _ _
      | exact spec_OD93Checks.mono _ _
      | exact spec_odAt.mono _ _ _
      | exact LeO.none _
      | refine LeO.ite ?_ ?_
      | refine LeO.bind ?_ (fun _ => ?_)
theorem spec_OD93.mono : ∀ a0 k, LeO (spec_OD93.f k a0) (spec_OD93.f (k + 1) a0) := by
  intro a0 k
  obtain ⟨ih0, ih1, ih2⟩ := spec_OD93.mono_l k
  unfold spec_OD93.f
  repeat' first
      | (with_reducible exact ih0 _ _ _)
      | (with_reducible exact ih1 _ _ _)
      | (with_reducible exact ih2 _ _ _ _)
      | (with_reducible exact spec_OD93Checks.mono _ _)
      | (with_reducible exact spec_odAt.mono _ _ _)
      | (with_reducible exact LeO.refl _)
      | (with_reducible exact LeO.none _)
      | (with_reducible refine LeO.ite ?_ ?_)
      | (with_reducible refine LeO.bind ?_ (fun _ => ?_))
      | exact ih0 _ _ _
      | exact ih1 _ _ _
      | exact ih2 _ _ _ _
      | exact spec_OD93Checks.mono _ _
      | exact spec_odAt.mono _ _ _
      | exact LeO.none _
      | refine LeO.ite ?_ ?_
      | refine LeO.bind ?_ (fun _ => ?_)
set_option maxHeartbeats 8000000 in
set_option maxRecDepth 100000 in
theorem spec_OD93.calls (k : Nat) (a0 : ByteArray) (r : List Bool) (w : World) (h : spec_OD93.f k a0 = some r) :
    Calls Tryz.prog 18 #[.string a0] w fun e w' => ∃ v0_ : Value, e = .returned (v0_) ∧ Kd.R Kd.bool 4 w' w.heap.size (fun _ => True) v0_ r ∧ Below w.heap.size w w' := by
  have HB := Aside0.mk (Below.refl w.heap.size w)
  have H : (spec_OD93.l0 k a0 ([] : List Int) 0) = some r := h
  clear h
  have H' := Aside0.mk H
  clear H
  go_enter Tryz.func18, Tryz.ntmps18
  go_wp2
  go_loopg [3, 4] k (fun kq v3 v4 w' => ∃ (x3_1 : List Int) (x4_1 : Int), v4 = .int .i64 x4_1 ∧ Aside0 (spec_OD93.l0 kq a0 x3_1 x4_1 = some r) ∧ Aside0 (kq ≤ k) ∧ Aside0 (Kd.R (Kd.int .i64) 3 w' w.heap.size (fun _ => True) v3 x3_1) ∧ Aside0 (Below w.heap.size w w'))
  case atStart => exact ⟨(([] : List Int)), (0), (by first | rfl | (simp; done) | (simp [*]; done)), H', ⟨Nat.le_refl _⟩, ⟨by first | exact Kd.R_nil _ _ _ _ _ | exact Kd.N_nil _ _ _ _ _ | exact Kd.V_nil _ _ _ _ _ | exact Kd.Q_nil _ _ _ _ _ | exact Kd.S_nil _ _ _ _ _⟩, ⟨by repeat (first | (with_reducible first | exact HB.out | apply below_alloc | apply pw_below_drewN | apply below_drew1) | exact HB.out)⟩⟩
  case round =>
    clear H'
    try clear c1
    obtain ⟨x3_1, x4_1, rfl, HA, HK1, HO_3, HB⟩ := hrel
    cases gk with
    | zero => exact absurd HA.out (by simp [spec_OD93.l0])
    | succ k1 =>
      have H := HA.out
      clear HA
      simp only [spec_OD93.l0] at H
      by_cases c2 : x4_1 < (a0.size : Int)
      · rw [if_pos c2] at H
        have c2b0 : decide (x4_1 < (a0.size : Int)) = true := decide_eq_true c2
        clear c2
        by_cases c3 : 0 ≤ x4_1
        · rw [if_pos c3] at H
          have c3b0 : decide (0 ≤ x4_1) = true := decide_eq_true c3
          clear c3
          replace H := Option.bind_eq_some_iff.mp H
          obtain ⟨t145, A50, H⟩ := H
          replace H : (if x3_1.length < 17592186044416 then (spec_OD93.l0 k1 a0 (x3_1 ++ [t145]) (wrap64 (x4_1 + 1))) else (none)) = some r := H
          have A5 := Aside0.mk A50
          clear A50
          by_cases c6 : x3_1.length < 17592186044416
          · rw [if_pos c6] at H
            have LMc6 := Aside0.mk c6
            clear c6
            obtain ⟨y146, hy146⟩ : ∃ y_ : List Int, y_ = (x3_1 ++ [t145]) := ⟨_, rfl⟩
            replace H : (spec_OD93.l0 k1 a0 y146 (wrap64 (x4_1 + 1))) = some r := by first | (rw [hy146]; with_reducible exact H) | (have H2_ := (Option.bind_some _ _).symm.trans H; rw [hy146]; with_reducible exact H2_) | (have H2_ := (Option.bind_some _ _).symm.trans H; with_reducible exact H2_) | with_reducible exact H | (rw [hy146]; exact H) | exact H
            have Ny146 := Aside0.mk hy146
            clear hy146
            have H' := Aside0.mk H
            clear H
            have p4 : 0 ≤ (x4_1 : Int) := of_decide_eq_true (by first | (with_reducible assumption) | assumption)
            have q4 : x4_1 < (a0.size : Int) := of_decide_eq_true (by first | (with_reducible assumption) | assumption)
            have hx4 := bt_at a0 x4_1
            replace p4 := eq_true p4
            replace q4 := eq_true q4
            go_wp2_with (first | ((with_reducible refine gate_callee (f := 32) rfl ?_); refine goesL_ (some 19) rfl rfl Tryz.func32 (by kernel_rfl) rfl #[.string (⟨#[48, 49, 50, 51, 52, 53, 54, 55, 56, 57, 65, 66, 67, 68, 69, 70, 71, 72, 73, 74, 75, 76, 77, 78, 79, 80, 81, 82, 83, 84, 85, 86, 87, 88, 89, 90, 45, 46, 32, 36, 47, 43, 37, 97, 98, 99, 100]⟩ : ByteArray), .int .u8 (bt a0 x4_1)] rfl (by (try simp only [List.map_toArray, List.map_cons, List.map_nil]); first | done | rfl | (simp only [List.length_drop, List.length_take]; rfl)) ?_; (with_reducible refine (spec_odAt.calls k1 (⟨#[48, 49, 50, 51, 52, 53, 54, 55, 56, 57, 65, 66, 67, 68, 69, 70, 71, 72, 73, 74, 75, 76, 77, 78, 79, 80, 81, 82, 83, 84, 85, 86, 87, 88, 89, 90, 45, 46, 32, 36, 47, 43, 37, 97, 98, 99, 100]⟩ : ByteArray) (bt a0 x4_1) t145 _ A5.out).mono ?_); rintro e w' ⟨rfl, ⟨nd, rfl⟩⟩; refine ⟨_, rfl, ?_⟩) | ((with_reducible refine gate_builtin (b := .append) (xs := #[.tmp 15, .tmp 20]) rfl ?_); at_builtin; refine Kd.R_append (Kd.int .i64) (w0 := w) w.heap.size rfl (.tmp 15) (.tmp 20) 40 3 (.int .i64 0) 8 rfl Tryz.underlying40 info3 rfl (by decide) (by omega) u3 x3_1 t145 [.int .i64 t145] (fun _ => True) (fun _ => False) rfl rfl ?aP (fun _ hk => hk.elim) ?aF ?aO ?aB ?aS ?aL ?_; (case aP => exact rfl); (case aB => exact (by repeat (first | (with_reducible first | exact HB.out | apply below_alloc | apply pw_below_drewN | apply below_drew1) | exact HB.out))); (case aF => exact (fun _ _ => trivial)); (case aO => exact (by (with_reducible repeat (first | apply Kd.R_alloc | apply Kd.R_drewN | apply Kd.R_drew)); exact HO_3.out)); (case aS => exact (below_size (by repeat (first | (with_reducible first | exact HB.out | apply below_alloc | apply pw_below_drewN | apply below_drew1) | exact HB.out)))); (case aL => have := LMc6.out; omega); intro v147 w7 ho hb hg hat; rw [← Ny146.out] at ho; have n0_ := Aside0.mk (hb); have n1_ := Aside0.mk (ho); clear HB; clear HO_3; have HB := n0_; have HO148 := n1_; clear n0_ n1_; clear ho hb hg hat))
            go_roundg k1
            case measure => have := HK1.out; omega
            case rel => exact ⟨(y146), (wrap64 (x4_1 + 1)), (by first | rfl | (simp; done) | (simp [*]; done)), H', ⟨by have := HK1.out; omega⟩, ⟨by (with_reducible repeat (first | apply Kd.R_alloc | apply Kd.R_drewN | apply Kd.R_drew)); exact HO148.out⟩, ⟨by repeat (first | (with_reducible first | exact HB.out | apply below_alloc | apply pw_below_drewN | apply below_drew1) | exact HB.out)⟩⟩
          · rw [if_neg c6] at H
            exact absurd H (by simp)
        · rw [if_neg c3] at H
          exact absurd H (by simp)
      · rw [if_neg c2] at H
        have c2b0 : decide (x4_1 < (a0.size : Int)) = false := decide_eq_false c2
        clear c2
        obtain ⟨y149, hy149⟩ : ∃ y_ : List Int, y_ = (([47] : List Int)) := ⟨_, rfl⟩
        replace H : (if y149.length + x3_1.length < 17592186044416 then ((some (y149 ++ x3_1 : List Int)).bind fun y152 => ((spec_OD93Checks.f k1 x3_1).bind fun t155 => (if y152.length + t155.length < 17592186044416 then ((some (y152 ++ t155 : List Int)).bind fun y158 => (if y158.length < 17592186044416 then (spec_OD93.l1 k1 (y158 ++ [47]) ([] : List Bool) 0) else (none))) else (none)))) else (none)) = some r := by first | (rw [hy149]; with_reducible exact H) | (have H2_ := (Option.bind_some _ _).symm.trans H; rw [hy149]; with_reducible exact H2_) | (have H2_ := (Option.bind_some _ _).symm.trans H; with_reducible exact H2_) | with_reducible exact H | (rw [hy149]; exact H) | exact H
        have Ny149 := Aside0.mk hy149
        clear hy149
        by_cases c8 : y149.length + x3_1.length < 17592186044416
        · rw [if_pos c8] at H
          have LMc8 := Aside0.mk c8
          clear c8
          obtain ⟨y152, hy152⟩ : ∃ y_ : List Int, y_ = (y149 ++ x3_1) := ⟨_, rfl⟩
          replace H : ((spec_OD93Checks.f k1 x3_1).bind fun t155 => (if y152.length + t155.length < 17592186044416 then ((some (y152 ++ t155 : List Int)).bind fun y158 => (if y158.length < 17592186044416 then (spec_OD93.l1 k1 (y158 ++ [47]) ([] : List Bool) 0) else (none))) else (none))) = some r := by first | (rw [hy152]; with_reducible exact H) | (have H2_ := (Option.bind_some _ _).symm.trans H; rw [hy152]; with_reducible exact H2_) | (have H2_ := (Option.bind_some _ _).symm.trans H; with_reducible exact H2_) | with_reducible exact H | (rw [hy152]; exact H) | exact H
          have Ny152 := Aside0.mk hy152
          clear hy152
          replace H := Option.bind_eq_some_iff.mp H
          obtain ⟨t155, A90, H⟩ := H
          replace H : (if y152.length + t155.length < 17592186044416 then ((some (y152 ++ t155 : List Int)).bind fun y158 => (if y158.length < 17592186044416 then (spec_OD93.l1 k1 (y158 ++ [47]) ([] : List Bool) 0) else (none))) else (none)) = some r := H
          have A9 := Aside0.mk A90
          clear A90
          by_cases c10 : y152.length + t155.length < 17592186044416
          · rw [if_pos c10] at H
            have LMc10 := Aside0.mk c10
            clear c10
            obtain ⟨y158, hy158⟩ : ∃ y_ : List Int, y_ = (y152 ++ t155) := ⟨_, rfl⟩
            replace H : (if y158.length < 17592186044416 then (spec_OD93.l1 k1 (y158 ++ [47]) ([] : List Bool) 0) else (none)) = some r := by first | (rw [hy158]; with_reducible exact H) | (have H2_ := (Option.bind_some _ _).symm.trans H; rw [hy158]; with_reducible exact H2_) | (have H2_ := (Option.bind_some _ _).symm.trans H; with_reducible exact H2_) | with_reducible exact H | (rw [hy158]; exact H) | exact H
            have Ny158 := Aside0.mk hy158
            clear hy158
            by_cases c11 : y158.length < 17592186044416
            · rw [if_pos c11] at H
              have LMc11 := Aside0.mk c11
              clear c11
              obtain ⟨y161, hy161⟩ : ∃ y_ : List Int, y_ = (y158 ++ [47]) := ⟨_, rfl⟩
              replace H : (spec_OD93.l1 k1 y161 ([] : List Bool) 0) = some r := by first | (rw [hy161]; with_reducible exact H) | (have H2_ := (Option.bind_some _ _).symm.trans H; rw [hy161]; with_reducible exact H2_) | (have H2_ := (Option.bind_some _ _).symm.trans H; with_reducible exact H2_) | with_reducible exact H | (rw [hy161]; exact H) | exact H
              have Ny161 := Aside0.mk hy161
              clear hy161
              have H' := Aside0.mk H
              clear H
              go_wp2_with (first | ((with_reducible refine gate_dst (N := 22) rfl ?_); refine Kd.R_lit (Kd.int .i64) _ 3 ?hg (N := 22) ?hd (xs := ([47] : List Int)) (inner := [.int .i64 47]) (ok := fun _ => True) (okp := fun _ => True) ?hr ?hp (fun _ hk => hk) trivial (Below.refl _ _) (Nat.le_refl _) (by simp) ?_; (case hd => rfl); (case hg => rfl); (case hr => first | (go_simp; done) | (go_simp; rfl)); (case hp => exact (Reps.one (show Kd.M (Kd.int .i64) _ _ _ 47 [.int .i64 47] from rfl) (Reps.none _ _))); intro v150 w12 ho13 hb hg_ hnew_; clear hg_ hnew_; (first | rw [← Ny149.out] at ho13 | (simp only [Int.reduceToNat] at ho13; rw [← Ny149.out] at ho13)); have n0_ := Aside0.mk (Kd.R_elder' (by (with_reducible repeat (first | apply Kd.R_alloc | apply Kd.R_drewN | apply Kd.R_drew)); exact HO_3.out) (Kd.R_base ho13) hb); have n1_ := Aside0.mk (Kd.R_lower (Kd.R_new' ho13 (Kd.R_lt (by (with_reducible repeat (first | apply Kd.R_alloc | apply Kd.R_drewN | apply Kd.R_drew)); exact HO_3.out))) (below_size (by repeat (first | (with_reducible first | exact HB.out | apply below_alloc | apply pw_below_drewN | apply below_drew1) | exact HB.out)))); have n2_ := Aside0.mk (below_step (by repeat (first | (with_reducible first | exact HB.out | apply below_alloc | apply pw_below_drewN | apply below_drew1) | exact HB.out)) hb); clear HO_3; clear HB; have HO_3 := n0_; have HO151 := n1_; have HB := n2_; clear n0_ n1_ n2_; clear hb ho13; obtain ⟨Ao15, co15, eo15⟩ := Kd.R_slice HO_3.out; subst eo15) | ((with_reducible refine gate_builtin (b := .append) (xs := #[.tmp 22, .tmp 23]) rfl ?_); at_builtin; refine Kd.R_append_rows (Kd.int .i64) (w0 := w) w.heap.size rfl (.tmp 22) (.tmp 23) 40 3 (.int .i64 0) 8 rfl Tryz.underlying40 info3 rfl (by decide) (by omega) v150 y149 x3_1 _ _ _ (fun k_ => some k_ ≠ (.slice Ao15 x3_1.length co15 : Value).ownBlock) (fun _ => False) rfl rfl ?aO ?aR (fun _ _ h => h) (fun _ h => h.elim) ?aF ?aB ?aS ?aL ?_; (case aR => repeat (first | exact (Kd.R_reads' HO_3.out).2.2 | (with_reducible refine Kd.C_alloc ?_ _) | (with_reducible refine Kd.C_drewN ?_ _) | (with_reducible refine Kd.C_drew ?_))); (case aB => exact (by repeat (first | (with_reducible first | exact HB.out | apply below_alloc | apply pw_below_drewN | apply below_drew1) | exact HB.out))); (case aF => exact (fun k_ hk => Kd.fresh' (Kd.R_lt (by (with_reducible repeat (first | apply Kd.R_alloc | apply Kd.R_drewN | apply Kd.R_drew)); exact HO_3.out)) k_ hk)); (case aO => exact (by (with_reducible repeat (first | apply Kd.R_alloc | apply Kd.R_drewN | apply Kd.R_drew)); exact Kd.R_mono HO151.out (fun _ hk => hk.2))); (case aS => exact (below_size (by repeat (first | (with_reducible first | exact HB.out | apply below_alloc | apply pw_below_drewN | apply below_drew1) | exact HB.out)))); (case aL => have := LMc8.out; omega); intro v153 w14 ho hb hg hat; rw [← Ny152.out] at ho; have n0_ := Aside0.mk (Kd.R_after (ok := (fun _ => True)) (by (with_reducible repeat (first | apply Kd.R_alloc | apply Kd.R_drewN | apply Kd.R_drew)); exact HO_3.out) hg hat); have n1_ := Aside0.mk (hb); have n2_ := Aside0.mk (ho); clear HO_3; clear HB; clear HO151; have HO_3 := n0_; have HB := n1_; have HO154 := n2_; clear n0_ n1_ n2_; clear ho hb hg hat) | ((with_reducible refine gate_callee (f := 33) rfl ?_); refine goesL_ (some 26) rfl rfl Tryz.func33 (by kernel_rfl) rfl #[.slice Ao15 x3_1.length co15] rfl (by (try simp only [List.map_toArray, List.map_cons, List.map_nil]); first | done | rfl | (simp only [List.length_drop, List.length_take]; rfl)) ?_; (with_reducible refine (spec_OD93Checks.calls k1 _ _ x3_1 t155 _ ?side1 ?side2 A9.out).mono ?_); (case side1 => repeat (first | exact (Kd.R_reads' HO_3.out).2.2 | (with_reducible refine Kd.C_alloc ?_ _) | (with_reducible refine Kd.C_drewN ?_ _) | (with_reducible refine Kd.C_drew ?_))); (case side2 => exact (Kd.R_reads' HO_3.out).2.1); rintro e w16 ⟨v156, rfl, ho0, hb⟩; refine ⟨_, rfl, ?_⟩; have n0_ := Aside0.mk (Kd.R_elder' (by (with_reducible repeat (first | apply Kd.R_alloc | apply Kd.R_drewN | apply Kd.R_drew)); exact HO_3.out) (Kd.Q_base ho0) hb); have n1_ := Aside0.mk (Kd.R_elder' (by (with_reducible repeat (first | apply Kd.R_alloc | apply Kd.R_drewN | apply Kd.R_drew)); exact HO154.out) (Kd.Q_base ho0) hb); have n2_ := Aside0.mk (Kd.Q_lower (Kd.Q_new' (Kd.Q_new' ho0 (Kd.R_lt (by (with_reducible repeat (first | apply Kd.R_alloc | apply Kd.R_drewN | apply Kd.R_drew)); exact HO_3.out))) (Kd.R_lt (by (with_reducible repeat (first | apply Kd.R_alloc | apply Kd.R_drewN | apply Kd.R_drew)); exact HO154.out))) (below_size (by repeat (first | (with_reducible first | exact HB.out | apply below_alloc | apply pw_below_drewN | apply below_drew1) | exact HB.out)))); have n3_ := Aside0.mk (below_step (by repeat (first | (with_reducible first | exact HB.out | apply below_alloc | apply pw_below_drewN | apply below_drew1) | exact HB.out)) hb); clear HO_3; clear HO154; clear HB; have HO_3 := n0_; have HO154 := n1_; have HO157 := n2_; have HB := n3_; clear n0_ n1_ n2_ n3_; (try clear hb); (try clear hb2); (try clear hk); (try clear hi); (try clear ho0); obtain ⟨Ao18, co18, eo18, _⟩ := Kd.Q_slice HO157.out; subst eo18) | ((with_reducible refine gate_builtin (b := .append) (xs := #[.tmp 24, .tmp 26]) rfl ?_); at_builtin; refine Kd.R_append_rows (Kd.int .i64) (w0 := w) w.heap.size rfl (.tmp 24) (.tmp 26) 40 3 (.int .i64 0) 8 rfl Tryz.underlying40 info3 rfl (by decide) (by omega) v153 y152 t155 _ _ _ (fun k_ => some k_ ≠ (.slice Ao15 x3_1.length co15 : Value).ownBlock ∧ some k_ ≠ (.slice Ao18 t155.length co18 : Value).ownBlock) (fun _ => False) rfl rfl ?aO ?aR (fun _ _ h => h) (fun _ h => h.elim) ?aF ?aB ?aS ?aL ?_; (case aR => repeat (first | exact (Kd.Q_reads' HO157.out).2.2 | (with_reducible refine Kd.C_alloc ?_ _) | (with_reducible refine Kd.C_drewN ?_ _) | (with_reducible refine Kd.C_drew ?_))); (case aB => exact (by repeat (first | (with_reducible first | exact HB.out | apply below_alloc | apply pw_below_drewN | apply below_drew1) | exact HB.out))); (case aF => exact (fun k_ hk => ⟨Kd.fresh' (Kd.R_lt (by (with_reducible repeat (first | apply Kd.R_alloc | apply Kd.R_drewN | apply Kd.R_drew)); exact HO_3.out)) k_ hk, Kd.fresh' (Kd.Q_lt (by (with_reducible repeat (first | apply Kd.Q_alloc | apply Kd.Q_drewN | apply Kd.Q_drew)); exact HO157.out)) k_ hk⟩)); (case aO => exact (by (with_reducible repeat (first | apply Kd.R_alloc | apply Kd.R_drewN | apply Kd.R_drew)); exact HO154.out)); (case aS => exact (below_size (by repeat (first | (with_reducible first | exact HB.out | apply below_alloc | apply pw_below_drewN | apply below_drew1) | exact HB.out)))); (case aL => have := LMc10.out; omega); intro v159 w17 ho hb hg hat; rw [← Ny158.out] at ho; have n0_ := Aside0.mk (Kd.R_after (ok := (fun k_ => some k_ ≠ (.slice Ao18 t155.length co18 : Value).ownBlock)) (by (with_reducible repeat (first | apply Kd.R_alloc | apply Kd.R_drewN | apply Kd.R_drew)); exact Kd.R_mono HO_3.out (fun _ hk => ⟨hk.2, hk.1.2⟩)) hg hat); have n1_ := Aside0.mk (Kd.Q_after (ok := (fun k_ => some k_ ≠ (.slice Ao15 x3_1.length co15 : Value).ownBlock)) (by (with_reducible repeat (first | apply Kd.Q_alloc | apply Kd.Q_drewN | apply Kd.Q_drew)); exact Kd.Q_mono HO157.out (fun _ hk => ⟨hk.1.2, hk.2⟩)) hg hat); have n2_ := Aside0.mk (hb); have n3_ := Aside0.mk (ho); clear HO_3; clear HO157; clear HB; clear HO154; have HO_3 := n0_; have HO157 := n1_; have HB := n2_; have HO160 := n3_; clear n0_ n1_ n2_ n3_; clear ho hb hg hat) | ((with_reducible refine gate_builtin (b := .append) (xs := #[.tmp 28, .tmp 29]) rfl ?_); at_builtin; refine Kd.R_append (Kd.int .i64) (w0 := w) w.heap.size rfl (.tmp 28) (.tmp 29) 40 3 (.int .i64 0) 8 rfl Tryz.underlying40 info3 rfl (by decide) (by omega) v159 y158 47 [.int .i64 47] (fun k_ => some k_ ≠ (.slice Ao15 x3_1.length co15 : Value).ownBlock ∧ some k_ ≠ (.slice Ao18 t155.length co18 : Value).ownBlock) (fun _ => False) rfl rfl ?aP (fun _ hk => hk.elim) ?aF ?aO ?aB ?aS ?aL ?_; (case aP => exact rfl); (case aB => exact (by repeat (first | (with_reducible first | exact HB.out | apply below_alloc | apply pw_below_drewN | apply below_drew1) | exact HB.out))); (case aF => exact (fun k_ hk => ⟨Kd.fresh' (Kd.R_lt (by (with_reducible repeat (first | apply Kd.R_alloc | apply Kd.R_drewN | apply Kd.R_drew)); exact HO_3.out)) k_ hk, Kd.fresh' (Kd.Q_lt (by (with_reducible repeat (first | apply Kd.Q_alloc | apply Kd.Q_drewN | apply Kd.Q_drew)); exact HO157.out)) k_ hk⟩)); (case aO => exact (by (with_reducible repeat (first | apply Kd.R_alloc | apply Kd.R_drewN | apply Kd.R_drew)); exact HO160.out)); (case aS => exact (below_size (by repeat (first | (with_reducible first | exact HB.out | apply below_alloc | apply pw_below_drewN | apply below_drew1) | exact HB.out)))); (case aL => have := LMc11.out; omega); intro v162 w19 ho hb hg hat; rw [← Ny161.out] at ho; have n0_ := Aside0.mk (Kd.R_after (ok := (fun k_ => some k_ ≠ (.slice Ao18 t155.length co18 : Value).ownBlock)) (by (with_reducible repeat (first | apply Kd.R_alloc | apply Kd.R_drewN | apply Kd.R_drew)); exact HO_3.out) hg hat); have n1_ := Aside0.mk (Kd.Q_after (ok := (fun k_ => some k_ ≠ (.slice Ao15 x3_1.length co15 : Value).ownBlock)) (by (with_reducible repeat (first | apply Kd.Q_alloc | apply Kd.Q_drewN | apply Kd.Q_drew)); exact HO157.out) hg hat); have n2_ := Aside0.mk (hb); have n3_ := Aside0.mk (ho); clear HO_3; clear HO157; clear HB; clear HO160; have HO_3 := n0_; have HO157 := n1_; have HB := n2_; have HO163 := n3_; clear n0_ n1_ n2_ n3_; clear ho hb hg hat))
              go_loopg [6, 7] k1 (fun kq v6 v7 w' => ∃ (x6_2 : List Bool) (x7_2 : Int), v7 = .int .i64 x7_2 ∧ Aside0 (spec_OD93.l1 kq y161 x6_2 x7_2 = some r) ∧ Aside0 (kq ≤ k1) ∧ Aside0 (Kd.R (Kd.int .i64) 3 w' w.heap.size (fun _ => True) v162 y161) ∧ Aside0 (Kd.R Kd.bool 4 w' w.heap.size (fun _ => True) v6 x6_2) ∧ Aside0 (Below w.heap.size w w'))
              case atStart => exact ⟨(([] : List Bool)), (0), (by first | rfl | (simp; done) | (simp [*]; done)), H', ⟨Nat.le_refl _⟩, ⟨by (with_reducible repeat (first | apply Kd.R_alloc | apply Kd.R_drewN | apply Kd.R_drew)); exact Kd.R_mono HO163.out (fun _ hk => trivial)⟩, ⟨by first | exact Kd.R_nil _ _ _ _ _ | exact Kd.N_nil _ _ _ _ _ | exact Kd.V_nil _ _ _ _ _ | exact Kd.Q_nil _ _ _ _ _ | exact Kd.S_nil _ _ _ _ _⟩, ⟨by repeat (first | (with_reducible first | exact HB.out | apply below_alloc | apply pw_below_drewN | apply below_drew1) | exact HB.out)⟩⟩
              case round =>
                clear H'
                try clear c1
                try clear c2
                try clear c2b0
                try clear p2
                try clear c3
                try clear c3b0
                try clear p4
                try clear q4
                try clear hx4
                try clear c6
                try clear p6
                try clear c8
                try clear c10
                try clear c11
                try clear c18
                try clear p4
                try clear q4
                obtain ⟨x6_2, x7_2, rfl, HA, HK2, HO_5, HO_6, HB⟩ := hrel
                cases gk with
                | zero => exact absurd HA.out (by simp [spec_OD93.l1])
                | succ k2 =>
                  have H := HA.out
                  clear HA
                  simp only [spec_OD93.l1] at H
                  by_cases c20 : x7_2 < (y161.length : Int)
                  · rw [if_pos c20] at H
                    have c20b0 : decide (x7_2 < (y161.length : Int)) = true := decide_eq_true c20
                    clear c20
                    have H' := Aside0.mk H
                    clear H
                    obtain ⟨Ao21, co21, eo21⟩ := Kd.R_slice HO_5.out
                    subst eo21
                    go_wp2
                    go_loopg [6, 8] k2 (fun kq v6 v8 w' => ∃ (x6_3 : List Bool) (x8_3 : Int), v8 = .int .i64 x8_3 ∧ Aside0 (spec_OD93.l2 kq y161 x6_3 x7_2 x8_3 = some r) ∧ Aside0 (kq ≤ k2) ∧ Aside0 (Kd.R (Kd.int .i64) 3 w' w.heap.size (fun _ => True) (.slice Ao21 y161.length co21) y161) ∧ Aside0 (Kd.R Kd.bool 4 w' w.heap.size (fun _ => True) v6 x6_3) ∧ Aside0 (Below w.heap.size w w'))
                    case atStart => exact ⟨(x6_2), (8), (by first | rfl | (simp; done) | (simp [*]; done)), H', ⟨Nat.le_refl _⟩, ⟨by (with_reducible repeat (first | apply Kd.R_alloc | apply Kd.R_drewN | apply Kd.R_drew)); exact HO_5.out⟩, ⟨by (with_reducible repeat (first | apply Kd.R_alloc | apply Kd.R_drewN | apply Kd.R_drew)); exact HO_6.out⟩, ⟨by repeat (first | (with_reducible first | exact HB.out | apply below_alloc | apply pw_below_drewN | apply below_drew1) | exact HB.out)⟩⟩
                    case round =>
                      clear H'
                      try clear c1
                      try clear c2
                      try clear c2b0
                      try clear p2
                      try clear c3
                      try clear c3b0
                      try clear p4
                      try clear q4
                      try clear hx4
                      try clear c6
                      try clear p6
                      try clear c8
                      try clear c10
                      try clear c11
                      try clear c18
                      try clear c20
                      try clear c20b0
                      try clear p2
                      try clear p4
                      try clear p6
                      try clear q4
                      obtain ⟨x6_3, x8_3, rfl, HA, HK3, HO_5, HO_6, HB⟩ := hrel
                      cases gk with
                      | zero => exact absurd HA.out (by simp [spec_OD93.l2])
                      | succ k3 =>
                        have H := HA.out
                        clear HA
                        simp only [spec_OD93.l2] at H
                        by_cases c22 : x8_3 ≥ 0
                        · rw [if_pos c22] at H
                          have c22b0 : decide (0 ≤ x8_3) = true := decide_eq_true c22
                          clear c22
                          by_cases c23 : 0 ≤ x7_2
                          · rw [if_pos c23] at H
                            have c23b0 : decide (0 ≤ x7_2) = true := decide_eq_true c23
                            clear c23
                            by_cases c24 : x7_2 < (y161.length : Int)
                            · rw [if_pos c24] at H
                              have c24b0 : decide (x7_2 < (y161.length : Int)) = true := decide_eq_true c24
                              clear c24
                              replace H := Option.bind_eq_some_iff.mp H
                              obtain ⟨t168, A250, H⟩ := H
                              replace H : (if 0 ≤ (IntKind.u64.wrap (x8_3)) then (if x6_3.length < 140737488355328 then (spec_OD93.l2 k3 y161 (x6_3 ++ [((Go.bits .and .i64 (shr .i64 t168 (IntKind.u64.wrap (x8_3))) 1) == 1)]) x7_2 (wrap64 (x8_3 - 1))) else (none)) else (none)) = some r := H
                              have A25 := Aside0.mk A250
                              clear A250
                              obtain ⟨ji26, hji26⟩ : ∃ j_ : Int, (IntKind.u64.wrap (x8_3)) = j_ := ⟨_, rfl⟩
                              replace H : (if 0 ≤ (ji26) then (if x6_3.length < 140737488355328 then (spec_OD93.l2 k3 y161 (x6_3 ++ [((Go.bits .and .i64 (shr .i64 t168 (ji26)) 1) == 1)]) x7_2 (wrap64 (x8_3 - 1))) else (none)) else (none)) = some r := by first | (rw [hji26] at H; exact H) | (simp only [hji26] at H ⊢; exact H)
                              (try rw [hji26] at A25)
                              by_cases c27 : 0 ≤ (ji26)
                              · rw [if_pos c27] at H
                                have c27b0 := eq_true c27
                                have c27b1 : decide (0 ≤ (ji26)) = true := decide_eq_true c27
                                clear c27
                                obtain ⟨ji28, hji28⟩ : ∃ j_ : Int, (shr .i64 t168 (ji26)) = j_ := ⟨_, rfl⟩
                                replace H : (if x6_3.length < 140737488355328 then (spec_OD93.l2 k3 y161 (x6_3 ++ [((Go.bits .and .i64 (ji28) 1) == 1)]) x7_2 (wrap64 (x8_3 - 1))) else (none)) = some r := by first | (rw [hji28] at H; exact H) | (simp only [hji28] at H ⊢; exact H)
                                (try rw [hji28] at A25)
                                have hji28_ : (t168 / 2 ^ min (ji26).toNat 64) = ji28 := hji28
                                have hji28z : (ji26) ≤ 64 → (t168 / 2 ^ (ji26).toNat) = ji28 := shr_small hji28
                                by_cases c29 : x6_3.length < 140737488355328
                                · rw [if_pos c29] at H
                                  have LMc29 := Aside0.mk c29
                                  clear c29
                                  obtain ⟨y169, hy169⟩ : ∃ y_ : List Bool, y_ = (x6_3 ++ [((Go.bits .and .i64 (ji28) 1) == 1)]) := ⟨_, rfl⟩
                                  replace H : (spec_OD93.l2 k3 y161 y169 x7_2 (wrap64 (x8_3 - 1))) = some r := by first | (rw [hy169]; with_reducible exact H) | (have H2_ := (Option.bind_some _ _).symm.trans H; rw [hy169]; with_reducible exact H2_) | (have H2_ := (Option.bind_some _ _).symm.trans H; with_reducible exact H2_) | with_reducible exact H | (rw [hy169]; exact H) | exact H
                                  have Ny169 := Aside0.mk hy169
                                  clear hy169
                                  have H' := Aside0.mk H
                                  clear H
                                  have p167 : 0 ≤ (x7_2 : Int) := of_decide_eq_true (by first | (with_reducible assumption) | assumption)
                                  have q167 : x7_2 < (y161.length : Int) := of_decide_eq_true (by first | (with_reducible assumption) | assumption)
                                  obtain ⟨ad167, e167, hx167_0⟩ := Kd.at_int (Kd.R_reads' HO_5.out).2.2 x7_2 p167 q167
                                  cases e167
                                  replace p167 := eq_true p167
                                  replace q167 := eq_true q167
                                  go_wp2_with (first | ((with_reducible refine gate_callee (f := 34) rfl ?_); refine goesL_ (some 46) rfl rfl Tryz.func34 (by kernel_rfl) rfl #[.int .i64 (rd y161 x7_2)] rfl (by (try simp only [List.map_toArray, List.map_cons, List.map_nil]); first | done | rfl | (simp only [List.length_drop, List.length_take]; rfl)) ?_; (with_reducible refine (spec_od93Bits.calls (rd y161 x7_2) t168 _ A25.out).mono ?_); rintro e w30 ⟨rfl, hb⟩; refine ⟨_, rfl, ?_⟩; have n0_ := Aside0.mk (Kd.R_below (by (with_reducible repeat (first | apply Kd.R_alloc | apply Kd.R_drewN | apply Kd.R_drew)); exact HO_5.out) hb); have n1_ := Aside0.mk (Kd.R_below (by (with_reducible repeat (first | apply Kd.R_alloc | apply Kd.R_drewN | apply Kd.R_drew)); exact HO_6.out) hb); have n2_ := Aside0.mk (below_step (by repeat (first | (with_reducible first | exact HB.out | apply below_alloc | apply pw_below_drewN | apply below_drew1) | exact HB.out)) hb); clear HO_5; clear HO_6; clear HB; have HO_5 := n0_; have HO_6 := n1_; have HB := n2_; clear n0_ n1_ n2_; (try clear hb); (try clear hb2); (try clear hk); (try clear hi)) | ((with_reducible refine gate_builtin (b := .append) (xs := #[.tmp 41, .tmp 52]) rfl ?_); at_builtin; refine Kd.R_append Kd.bool (w0 := w) w.heap.size rfl (.tmp 41) (.tmp 52) 27 4 (.bool false) 1 rfl Tryz.underlying27 info4 rfl (by decide) (by omega) u6 x6_3 ((Go.bits .and .i64 (ji28) 1) == 1) [.bool ((Go.bits .and .i64 (ji28) 1) == 1)] (fun _ => True) (fun _ => False) rfl rfl ?aP (fun _ hk => hk.elim) ?aF ?aO ?aB ?aS ?aL ?_; (case aP => exact rfl); (case aB => exact (by repeat (first | (with_reducible first | exact HB.out | apply below_alloc | apply pw_below_drewN | apply below_drew1) | exact HB.out))); (case aF => exact (fun _ _ => trivial)); (case aO => exact (by (with_reducible repeat (first | apply Kd.R_alloc | apply Kd.R_drewN | apply Kd.R_drew)); exact HO_6.out)); (case aS => exact (below_size (by repeat (first | (with_reducible first | exact HB.out | apply below_alloc | apply pw_below_drewN | apply below_drew1) | exact HB.out)))); (case aL => have := LMc29.out; omega); intro v170 w31 ho hb hg hat; rw [← Ny169.out] at ho; have n0_ := Aside0.mk (Kd.R_over' (by (with_reducible repeat (first | apply Kd.R_alloc | apply Kd.R_drewN | apply Kd.R_drew)); exact HO_5.out) (Kd.R_typed (by (with_reducible repeat (first | apply Kd.R_alloc | apply Kd.R_drewN | apply Kd.R_drew)); exact HO_6.out)) (by decide) hg); have n1_ := Aside0.mk (hb); have n2_ := Aside0.mk (ho); clear HO_5; clear HB; clear HO_6; have HO_5 := n0_; have HB := n1_; have HO171 := n2_; clear n0_ n1_ n2_; clear ho hb hg hat))
                                  go_roundg k3
                                  case measure => have := HK1.out; have := HK2.out; have := HK3.out; omega
                                  case rel => exact ⟨(y169), (wrap64 (x8_3 - 1)), (by first | rfl | (simp; done) | (simp [*]; done)), H', ⟨by have := HK1.out; have := HK2.out; have := HK3.out; omega⟩, ⟨by (with_reducible repeat (first | apply Kd.R_alloc | apply Kd.R_drewN | apply Kd.R_drew)); exact HO_5.out⟩, ⟨by (with_reducible repeat (first | apply Kd.R_alloc | apply Kd.R_drewN | apply Kd.R_drew)); exact HO171.out⟩, ⟨by repeat (first | (with_reducible first | exact HB.out | apply below_alloc | apply pw_below_drewN | apply below_drew1) | exact HB.out)⟩⟩
                                · rw [if_neg c29] at H
                                  exact absurd H (by simp)
                              · rw [if_neg c27] at H
                                exact absurd H (by simp)
                            · rw [if_neg c24] at H
                              exact absurd H (by simp)
                          · rw [if_neg c23] at H
                            exact absurd H (by simp)
                        · rw [if_neg c22] at H
                          have c22b0 : decide (0 ≤ x8_3) = false := decide_eq_false c22
                          clear c22
                          have H' := Aside0.mk H
                          clear H
                          go_wp2
                          go_roundg k3
                          case measure => have := HK1.out; have := HK2.out; have := HK3.out; omega
                          case rel => exact ⟨(x6_3), (wrap64 (x7_2 + 1)), (by first | rfl | (simp; done) | (simp [*]; done)), H', ⟨by have := HK1.out; have := HK2.out; have := HK3.out; omega⟩, ⟨by (with_reducible repeat (first | apply Kd.R_alloc | apply Kd.R_drewN | apply Kd.R_drew)); exact HO_5.out⟩, ⟨by (with_reducible repeat (first | apply Kd.R_alloc | apply Kd.R_drewN | apply Kd.R_drew)); exact HO_6.out⟩, ⟨by repeat (first | (with_reducible first | exact HB.out | apply below_alloc | apply pw_below_drewN | apply below_drew1) | exact HB.out)⟩⟩
                  · rw [if_neg c20] at H
                    have c20b0 : decide (x7_2 < (y161.length : Int)) = false := decide_eq_false c20
                    clear c20
                    by_cases c32 : x6_2.length < 140737488355328
                    · rw [if_pos c32] at H
                      have LMc32 := Aside0.mk c32
                      clear c32
                      obtain ⟨y164, hy164⟩ : ∃ y_ : List Bool, y_ = (x6_2 ++ [true]) := ⟨_, rfl⟩
                      replace H : (some y164) = some r := by first | (rw [hy164]; with_reducible exact H) | (have H2_ := (Option.bind_some _ _).symm.trans H; rw [hy164]; with_reducible exact H2_) | (have H2_ := (Option.bind_some _ _).symm.trans H; with_reducible exact H2_) | with_reducible exact H | (rw [hy164]; exact H) | exact H
                      have Ny164 := Aside0.mk hy164
                      clear hy164
                      obtain rfl := Option.some.inj H
                      obtain ⟨Ao33, co33, eo33⟩ := Kd.R_slice HO_5.out
                      subst eo33
                      go_wp2_with (first | ((with_reducible refine gate_builtin (b := .append) (xs := #[.tmp 54, .tmp 55]) rfl ?_); at_builtin; refine Kd.R_append Kd.bool (w0 := w) w.heap.size rfl (.tmp 54) (.tmp 55) 27 4 (.bool false) 1 rfl Tryz.underlying27 info4 rfl (by decide) (by omega) u6 x6_2 true [.bool true] (fun _ => True) (fun _ => False) rfl rfl ?aP (fun _ hk => hk.elim) ?aF ?aO ?aB ?aS ?aL ?_; (case aP => exact rfl); (case aB => exact (by repeat (first | (with_reducible first | exact HB.out | apply below_alloc | apply pw_below_drewN | apply below_drew1) | exact HB.out))); (case aF => exact (fun _ _ => trivial)); (case aO => exact (by (with_reducible repeat (first | apply Kd.R_alloc | apply Kd.R_drewN | apply Kd.R_drew)); exact HO_6.out)); (case aS => exact (below_size (by repeat (first | (with_reducible first | exact HB.out | apply below_alloc | apply pw_below_drewN | apply below_drew1) | exact HB.out)))); (case aL => have := LMc32.out; omega); intro v165 w34 ho hb hg hat; rw [← Ny164.out] at ho; have n0_ := Aside0.mk (Kd.R_over' (by (with_reducible repeat (first | apply Kd.R_alloc | apply Kd.R_drewN | apply Kd.R_drew)); exact HO_5.out) (Kd.R_typed (by (with_reducible repeat (first | apply Kd.R_alloc | apply Kd.R_drewN | apply Kd.R_drew)); exact HO_6.out)) (by decide) hg); have n1_ := Aside0.mk (hb); have n2_ := Aside0.mk (ho); clear HO_5; clear HB; clear HO_6; have HO_5 := n0_; have HB := n1_; have HO166 := n2_; clear n0_ n1_ n2_; clear ho hb hg hat))
                      go_ret
                      exact ⟨_, by first | rfl | (simp [errW_none, errW_some] <;> rfl) | (simp [*, errW_none, errW_some] <;> rfl), by (with_reducible repeat (first | apply Kd.R_alloc | apply Kd.R_drewN | apply Kd.R_drew)); exact HO166.out, by repeat (first | (with_reducible first | exact HB.out | apply below_alloc | apply pw_below_drewN | apply below_drew1) | exact HB.out)⟩
                    · rw [if_neg c32] at H
                      exact absurd H (by simp)
            · rw [if_neg c11] at H
              exact absurd H (by simp)
          · rw [if_neg c10] at H
            exact absurd H (by simp)
        · rw [if_neg c8] at H
          exact absurd H (by simp)

/-! ### spec_odLetter: function 62 -/
def spec_odLetter.f (a0 : Int) : Option (ByteArray) := some (strOfNums (([(wrap64 (65 + a0)) % 256] : List Int)))
set_option maxHeartbeats 8000000 in
set_option maxRecDepth 100000 in
theorem spec_odLetter.calls (a0 : Int) (r : ByteArray) (w : World) (h : spec_odLetter.f a0 = some r) :
    Calls Tryz.prog 62 #[.int .i64 a0] w fun e w' => e = .returned (.string r) ∧ Below w.heap.size w w' := by
  have HB := Aside0.mk (Below.refl w.heap.size w)
  have H : (some (strOfNums (([(wrap64 (65 + a0)) % 256] : List Int)))) = some r := h
  clear h
  obtain ⟨y172, hy172⟩ : ∃ y_ : List Int, y_ = (([(wrap64 (65 + a0)) % 256] : List Int)) := ⟨_, rfl⟩
  replace H : (some (strOfNums y172)) = some r := by first | (rw [hy172]; with_reducible exact H) | (have H2_ := (Option.bind_some _ _).symm.trans H; rw [hy172]; with_reducible exact H2_) | (have H2_ := (Option.bind_some _ _).symm.trans H; with_reducible exact H2_) | with_reducible exact H | (rw [hy172]; exact H) | exact H
  have Ny172 := Aside0.mk hy172
  clear hy172
  obtain rfl := Option.some.inj H
  go_enter Tryz.func62, Tryz.ntmps62
  go_wp2_with (first | ((with_reducible refine gate_dst (N := 6) rfl ?_); refine Kd.R_lit (Kd.int .u8) _ 5 ?hg (N := 6) ?hd (xs := ([(wrap64 (65 + a0)) % 256] : List Int)) (inner := [.int .u8 ((wrap64 (65 + a0)) % 256)]) (ok := fun _ => True) (okp := fun _ => True) ?hr ?hp (fun _ hk => hk) trivial (Below.refl _ _) (Nat.le_refl _) (by simp) ?_; (case hd => rfl); (case hg => rfl); (case hr => first | (go_simp; done) | (go_simp; rfl)); (case hp => exact (Reps.one (show Kd.M (Kd.int .u8) _ _ _ ((wrap64 (65 + a0)) % 256) [.int .u8 ((wrap64 (65 + a0)) % 256)] from rfl) (Reps.none _ _))); intro v173 w2 ho3 hb hg_ hnew_; clear hg_ hnew_; (first | rw [← Ny172.out] at ho3 | (simp only [Int.reduceToNat] at ho3; rw [← Ny172.out] at ho3)); have n0_ := Aside0.mk (Kd.R_lower ho3 (below_size (by repeat (first | (with_reducible first | exact HB.out | apply below_alloc | apply pw_below_drewN | apply below_drew1) | exact HB.out)))); have n1_ := Aside0.mk (below_step (by repeat (first | (with_reducible first | exact HB.out | apply below_alloc | apply pw_below_drewN | apply below_drew1) | exact HB.out)) hb); clear HB; have HO174 := n0_; have HB := n1_; clear n0_ n1_; clear hb ho3; have hcv4 := own_string (P := Tryz.prog) Tryz.underlying22 Tryz.underlying5 Tryz.underlying9 (Kd.own_of_R HO174.out)))
  go_ret
  exact ⟨by first | rfl | (simp [errW_none, errW_some] <;> rfl) | (simp [*, errW_none, errW_some] <;> rfl), by repeat (first | (with_reducible first | exact HB.out | apply below_alloc | apply pw_below_drewN | apply below_drew1) | exact HB.out)⟩

/-! ### spec_OD39Pairs: function 35 -/
mutual
def spec_OD39Pairs.l0 : Nat → ByteArray → ByteArray → Int → Option (ByteArray)
  | 0, _, _, _ => none
  | k + 1, x0, x3, x4 => if x4 < (x0.size : Int) then (if 0 ≤ x4 then (if (wrap64 (bt x0 x4)) = 0 then (if x3.size + 2 ≤ 9223372036854775807 then (spec_OD39Pairs.l0 k x0 (x3 ++ (⟨#[37, 85]⟩ : ByteArray)) (wrap64 (x4 + 1))) else (none)) else (if (wrap64 (bt x0 x4)) ≤ 26 then (if x3.size + 1 ≤ 9223372036854775807 then ((spec_odLetter.f (wrap64 ((wrap64 (bt x0 x4)) - 1))).bind fun t175 => (if (x3 ++ (⟨#[36]⟩ : ByteArray)).size + t175.size ≤ 9223372036854775807 then (spec_OD39Pairs.l0 k x0 ((x3 ++ (⟨#[36]⟩ : ByteArray)) ++ t175) (wrap64 (x4 + 1))) else (none))) else (none)) else (if (wrap64 (bt x0 x4)) < 32 then (if x3.size + 1 ≤ 9223372036854775807 then ((spec_odLetter.f (wrap64 ((wrap64 (bt x0 x4)) - 27))).bind fun t176 => (if (x3 ++ (⟨#[37]⟩ : ByteArray)).size + t176.size ≤ 9223372036854775807 then (spec_OD39Pairs.l0 k x0 ((x3 ++ (⟨#[37]⟩ : ByteArray)) ++ t176) (wrap64 (x4 + 1))) else (none))) else (none)) else (if (wrap64 (bt x0 x4)) = 32 then (spec_OD39Pairs.j1 k x0 x3 x4 (wrap64 (bt x0 x4)) true) else (if (wrap64 (bt x0 x4)) = 45 then (spec_OD39Pairs.j1 k x0 x3 x4 (wrap64 (bt x0 x4)) true) else (if (wrap64 (bt x0 x4)) = 46 then (spec_OD39Pairs.j1 k x0 x3 x4 (wrap64 (bt x0 x4)) true) else (if (wrap64 (bt x0 x4)) ≥ 48 then (if (wrap64 (bt x0 x4)) ≤ 57 then (spec_OD39Pairs.j1 k x0 x3 x4 (wrap64 (bt x0 x4)) true) else (if (wrap64 (bt x0 x4)) ≥ 65 then (spec_OD39Pairs.j1 k x0 x3 x4 (wrap64 (bt x0 x4)) (decide ((wrap64 (bt x0 x4)) ≤ 90))) else (spec_OD39Pairs.j1 k x0 x3 x4 (wrap64 (bt x0 x4)) false))) else (if (wrap64 (bt x0 x4)) ≥ 65 then (spec_OD39Pairs.j1 k x0 x3 x4 (wrap64 (bt x0 x4)) (decide ((wrap64 (bt x0 x4)) ≤ 90))) else (spec_OD39Pairs.j1 k x0 x3 x4 (wrap64 (bt x0 x4)) false))))))))) else (none)) else (some x3)
def spec_OD39Pairs.j1 : Nat → ByteArray → ByteArray → Int → Int → Bool → Option (ByteArray)
  | 0, _, _, _, _, _ => none
  | k + 1, x0, x3, x4, x5, x46 => if x46 = true then (if 0 ≤ x4 then (if x4 ≤ (wrap64 (x4 + 1)) then (if (wrap64 (x4 + 1)) ≤ (x0.size : Int) then (if x3.size + (x0.extract (x4 : Int).toNat ((wrap64 (x4 + 1)) : Int).toNat).size ≤ 9223372036854775807 then (spec_OD39Pairs.l0 k x0 (x3 ++ (x0.extract (x4 : Int).toNat ((wrap64 (x4 + 1)) : Int).toNat)) (wrap64 (x4 + 1))) else (none)) else (none)) else (none)) else (none)) else (if x5 < 48 then (if x3.size + 1 ≤ 9223372036854775807 then ((spec_odLetter.f (wrap64 (x5 - 33))).bind fun t177 => (if (x3 ++ (⟨#[47]⟩ : ByteArray)).size + t177.size ≤ 9223372036854775807 then (spec_OD39Pairs.l0 k x0 ((x3 ++ (⟨#[47]⟩ : ByteArray)) ++ t177) (wrap64 (x4 + 1))) else (none))) else (none)) else (if x5 = 58 then (if x3.size + 2 ≤ 9223372036854775807 then (spec_OD39Pairs.l0 k x0 (x3 ++ (⟨#[47, 90]⟩ : ByteArray)) (wrap64 (x4 + 1))) else (none)) else (if x5 < 64 then (if x3.size + 1 ≤ 9223372036854775807 then ((spec_odLetter.f (wrap64 ((wrap64 (5 + x5)) - 59))).bind fun t178 => (if (x3 ++ (⟨#[37]⟩ : ByteArray)).size + t178.size ≤ 9223372036854775807 then (spec_OD39Pairs.l0 k x0 ((x3 ++ (⟨#[37]⟩ : ByteArray)) ++ t178) (wrap64 (x4 + 1))) else (none))) else (none)) else (if x5 = 64 then (if x3.size + 2 ≤ 9223372036854775807 then (spec_OD39Pairs.l0 k x0 (x3 ++ (⟨#[37, 86]⟩ : ByteArray)) (wrap64 (x4 + 1))) else (none)) else (if x5 < 96 then (if x3.size + 1 ≤ 9223372036854775807 then ((spec_odLetter.f (wrap64 ((wrap64 (10 + x5)) - 91))).bind fun t179 => (if (x3 ++ (⟨#[37]⟩ : ByteArray)).size + t179.size ≤ 9223372036854775807 then (spec_OD39Pairs.l0 k x0 ((x3 ++ (⟨#[37]⟩ : ByteArray)) ++ t179) (wrap64 (x4 + 1))) else (none))) else (none)) else (if x5 = 96 then (if x3.size + 2 ≤ 9223372036854775807 then (spec_OD39Pairs.l0 k x0 (x3 ++ (⟨#[37, 87]⟩ : ByteArray)) (wrap64 (x4 + 1))) else (none)) else (if x5 ≤ 122 then (if x3.size + 1 ≤ 9223372036854775807 then ((spec_odLetter.f (wrap64 (x5 - 97))).bind fun t180 => (if (x3 ++ (⟨#[43]⟩ : ByteArray)).size + t180.size ≤ 9223372036854775807 then (spec_OD39Pairs.l0 k x0 ((x3 ++ (⟨#[43]⟩ : ByteArray)) ++ t180) (wrap64 (x4 + 1))) else (none))) else (none)) else (if x3.size + 1 ≤ 9223372036854775807 then ((spec_odLetter.f (wrap64 ((wrap64 (15 + x5)) - 123))).bind fun t181 => (if (x3 ++ (⟨#[37]⟩ : ByteArray)).size + t181.size ≤ 9223372036854775807 then (spec_OD39Pairs.l0 k x0 ((x3 ++ (⟨#[37]⟩ : ByteArray)) ++ t181) (wrap64 (x4 + 1))) else (none))) else (none)))))))))
end
def spec_OD39Pairs.f (k : Nat) (a0 : ByteArray) : Option (ByteArray) := spec_OD39Pairs.l0 k a0 (⟨#[]⟩ : ByteArray) 0
theorem spec_OD39Pairs.mono_l : ∀ k, (∀ y0 y1 y2, LeO (spec_OD39Pairs.l0 k y0 y1 y2) (spec_OD39Pairs.l0 (k + 1) y0 y1 y2)) ∧ (∀ y0 y1 y2 y3 y4, LeO (spec_OD39Pairs.j1 k y0 y1 y2 y3 y4) (spec_OD39Pairs.j1 (k + 1) y0 y1 y2 y3 y4))
  | 0 => ⟨fun _ _ _ r h => by simp [spec_OD39Pairs.l0] at h, fun _ _ _ _ _ r h => by simp [spec_OD39Pairs.j1] at h⟩
  | k + 1 => by
    obtain ⟨ih0, ih1⟩ := spec_OD39Pairs.mono_l k
    refine ⟨?_, ?_⟩
    · intro y0 y1 y2
      unfold spec_OD39Pairs.l0
      repeat' first
      | (with_reducible exact ih0 _ _ _)
      | (with_reducible exact ih1 _ _ _ _ _)
      | (with_reducible exact LeO.refl _)
      | (with_reducible exact LeO.none _)
      | (with_reducible refine LeO.ite ?_ ?_)
      | (with_reducible refine LeO.bind ?_ (fun _ => ?_))
      | exact ih0 _ _ _
      | exact ih1 _ _ _ _ _
      | exact LeO.none _
      | refine LeO.ite ?_ ?_
      | refine LeO.bind ?_ (fun _ => ?_)
    · intro y0 y1 y2 y3 y4
      unfold spec_OD39Pairs.j1
      repeat' first
      | (with_reducible exact ih0 _ _ _)
      | (with_reducible exact ih1 _ _ _ _ _)
      | (with_reducible exact LeO.refl _)
      | (with_reducible exact LeO.none _)
      | (with_reducible refine LeO.ite ?_ ?_)
      | (with_reducible refine LeO.bind ?_ (fun _ => ?_))
      | exact ih0 _ _ _
      | exact ih1 _ _ _ _ _
      | exact LeO.none _
      | refine LeO.ite ?_ ?_
      | refine LeO.bind ?_ (fun _ => ?_)
theorem spec_OD39Pairs.mono : ∀ a0 k, LeO (spec_OD39Pairs.f k a0) (spec_OD39Pairs.f (k + 1) a0) := by
  intro a0 k
  obtain ⟨ih0, ih1⟩ := spec_OD39Pairs.mono_l k
  unfold spec_OD39Pairs.f
  repeat' first
      | (with_reducible exact ih0 _ _ _)
      | (with_reducible exact ih1 _ _ _ _ _)
      | (with_reducible exact LeO.refl _)
      | (with_reducible exact LeO.none _)
      | (with_reducible refine LeO.ite ?_ ?_)
      | (with_reducible refine LeO.bind ?_ (fun _ => ?_))
      | exact ih0 _ _ _
      | exact ih1 _ _ _ _ _
      | exact LeO.none _
      | refine LeO.ite ?_ ?_
      | refine LeO.bind ?_ (fun _ => ?_)
set_option maxHeartbeats 8000000 in
set_option maxRecDepth 100000 in
theorem spec_OD39Pairs.calls (k : Nat) (a0 : ByteArray) (r : ByteArray) (w : World) (h : spec_OD39Pairs.f k a0 = some r) :
    Calls Tryz.prog 35 #[.string a0] w fun e w' => e = .returned (.string r) ∧ Below w.heap.size w w' := by
  have HB := Aside0.mk (Below.refl w.heap.size w)
  have H : (spec_OD39Pairs.l0 k a0 (⟨#[]⟩ : ByteArray) 0) = some r := h
  clear h
  have H' := Aside0.mk H
  clear H
  go_enter Tryz.func35, Tryz.ntmps35
  go_wp2
  go_loopg [3, 4] k (fun kq v3 v4 w' => ∃ (x3_1 : ByteArray) (x4_1 : Int), v3 = .string x3_1 ∧ v4 = .int .i64 x4_1 ∧ Aside0 (spec_OD39Pairs.l0 kq a0 x3_1 x4_1 = some r) ∧ Aside0 (kq ≤ k) ∧ Aside0 (Below w.heap.size w w'))
  case atStart => exact ⟨((⟨#[]⟩ : ByteArray)), (0), (by first | rfl | (simp; done) | (simp [*]; done)), (by first | rfl | (simp; done) | (simp [*]; done)), H', ⟨Nat.le_refl _⟩, ⟨by repeat (first | (with_reducible first | exact HB.out | apply below_alloc | apply pw_below_drewN | apply below_drew1) | exact HB.out)⟩⟩
  case round =>
    clear H'
    obtain ⟨x3_1, x4_1, rfl, rfl, HA, HK1, HB⟩ := hrel
    cases gk with
    | zero => exact absurd HA.out (by simp [spec_OD39Pairs.l0])
    | succ k1 =>
      have H := HA.out
      clear HA
      simp only [spec_OD39Pairs.l0] at H
      by_cases c2 : x4_1 < (a0.size : Int)
      · rw [if_pos c2] at H
        have c2b0 : decide (x4_1 < (a0.size : Int)) = true := decide_eq_true c2
        clear c2
        by_cases c3 : 0 ≤ x4_1
        · rw [if_pos c3] at H
          have c3b0 : decide (0 ≤ x4_1) = true := decide_eq_true c3
          clear c3
          by_cases c5 : (wrap64 (bt a0 x4_1)) = 0
          · rw [if_pos c5] at H
            have c5b0 : ((wrap64 (bt a0 x4_1)) == 0) = true := beq_iff_eq.mpr c5
            have c5b1 : ((wrap64 (bt a0 x4_1)) != 0) = false := bne_eq_false_iff_eq.mpr c5
            clear c5
            by_cases c6 : x3_1.size + 2 ≤ 9223372036854775807
            · rw [if_pos c6] at H
              have c6b0 := eq_true c6
              have c6b1 : decide (x3_1.size + 2 ≤ 9223372036854775807) = true := decide_eq_true c6
              try have c6b2 : (9223372036854775807 < x3_1.size + 2) = False := eq_false (Nat.not_lt.2 c6)
              have H' := Aside0.mk H
              clear H
              have p4 : 0 ≤ (x4_1 : Int) := of_decide_eq_true (by first | (with_reducible assumption) | assumption)
              have q4 : x4_1 < (a0.size : Int) := of_decide_eq_true (by first | (with_reducible assumption) | assumption)
              have hx4 := bt_at a0 x4_1
              replace p4 := eq_true p4
              replace q4 := eq_true q4
              go_wp2
              go_roundg k1
              case measure => have := HK1.out; omega
              case rel => exact ⟨(x3_1 ++ (⟨#[37, 85]⟩ : ByteArray)), (wrap64 (x4_1 + 1)), (by first | rfl | (simp; done) | (simp [*]; done)), (by first | rfl | (simp; done) | (simp [*]; done)), H', ⟨by have := HK1.out; omega⟩, ⟨by repeat (first | (with_reducible first | exact HB.out | apply below_alloc | apply pw_below_drewN | apply below_drew1) | exact HB.out)⟩⟩
            · rw [if_neg c6] at H
              exact absurd H (by simp)
          · rw [if_neg c5] at H
            have c5b0 : ((wrap64 (bt a0 x4_1)) == 0) = false := beq_eq_false_iff_ne.mpr c5
            have c5b1 : ((wrap64 (bt a0 x4_1)) != 0) = true := bne_iff_ne.mpr c5
            by_cases c7 : (wrap64 (bt a0 x4_1)) ≤ 26
            · rw [if_pos c7] at H
              have c7b0 : decide ((wrap64 (bt a0 x4_1)) ≤ 26) = true := decide_eq_true c7
              clear c7
              by_cases c8 : x3_1.size + 1 ≤ 9223372036854775807
              · rw [if_pos c8] at H
                have c8b0 := eq_true c8
                have c8b1 : decide (x3_1.size + 1 ≤ 9223372036854775807) = true := decide_eq_true c8
                try have c8b2 : (9223372036854775807 < x3_1.size + 1) = False := eq_false (Nat.not_lt.2 c8)
                replace H := Option.bind_eq_some_iff.mp H
                obtain ⟨t175, A90, H⟩ := H
                replace H : (if (x3_1 ++ (⟨#[36]⟩ : ByteArray)).size + t175.size ≤ 9223372036854775807 then (spec_OD39Pairs.l0 k1 a0 ((x3_1 ++ (⟨#[36]⟩ : ByteArray)) ++ t175) (wrap64 (x4_1 + 1))) else (none)) = some r := H
                have A9 := Aside0.mk A90
                clear A90
                by_cases c10 : (x3_1 ++ (⟨#[36]⟩ : ByteArray)).size + t175.size ≤ 9223372036854775807
                · rw [if_pos c10] at H
                  have c10b0 := eq_true c10
                  have c10b1 : decide ((x3_1 ++ (⟨#[36]⟩ : ByteArray)).size + t175.size ≤ 9223372036854775807) = true := decide_eq_true c10
                  try have c10b2 : (9223372036854775807 < (x3_1 ++ (⟨#[36]⟩ : ByteArray)).size + t175.size) = False := eq_false (Nat.not_lt.2 c10)
                  have c10y : x3_1.size + 1 + t175.size ≤ 9223372036854775807 := by have h_ := c10; simp only [ByteArray.size_append] at h_; exact h_
                  have c10y0 := eq_true c10y
                  have c10y1 : decide (x3_1.size + 1 + t175.size ≤ 9223372036854775807) = true := decide_eq_true c10y
                  have c10y2 : (9223372036854775807 < x3_1.size + 1 + t175.size) = False := eq_false (Nat.not_lt.2 c10y)
                  have H' := Aside0.mk H
                  clear H
                  have p4 : 0 ≤ (x4_1 : Int) := of_decide_eq_true (by first | (with_reducible assumption) | assumption)
                  have q4 : x4_1 < (a0.size : Int) := of_decide_eq_true (by first | (with_reducible assumption) | assumption)
                  have hx4 := bt_at a0 x4_1
                  replace p4 := eq_true p4
                  replace q4 := eq_true q4
                  go_wp2_with (first | ((with_reducible refine gate_callee (f := 62) rfl ?_); refine goesL_ (some 35) rfl rfl Tryz.func62 (by kernel_rfl) rfl #[.int .i64 (wrap64 ((wrap64 (bt a0 x4_1)) - 1))] rfl (by (try simp only [List.map_toArray, List.map_cons, List.map_nil]); first | done | rfl | (simp only [List.length_drop, List.length_take]; rfl)) ?_; (with_reducible refine (spec_odLetter.calls (wrap64 ((wrap64 (bt a0 x4_1)) - 1)) t175 _ A9.out).mono ?_); rintro e w11 ⟨rfl, hb⟩; refine ⟨_, rfl, ?_⟩; have n0_ := Aside0.mk (below_step (by repeat (first | (with_reducible first | exact HB.out | apply below_alloc | apply pw_below_drewN | apply below_drew1) | exact HB.out)) hb); clear HB; have HB := n0_; clear n0_; (try clear hb); (try clear hb2); (try clear hk); (try clear hi)))
                  go_roundg k1
                  case measure => have := HK1.out; omega
                  case rel => exact ⟨((x3_1 ++ (⟨#[36]⟩ : ByteArray)) ++ t175), (wrap64 (x4_1 + 1)), (by first | rfl | (simp; done) | (simp [*]; done)), (by first | rfl | (simp; done) | (simp [*]; done)), H', ⟨by have := HK1.out; omega⟩, ⟨by repeat (first | (with_reducible first | exact HB.out | apply below_alloc | apply pw_below_drewN | apply below_drew1) | exact HB.out)⟩⟩
                · rw [if_neg c10] at H
                  exact absurd H (by simp)
              · rw [if_neg c8] at H
                exact absurd H (by simp)
            · rw [if_neg c7] at H
              have c7b0 : decide ((wrap64 (bt a0 x4_1)) ≤ 26) = false := decide_eq_false c7
              clear c7
              by_cases c12 : (wrap64 (bt a0 x4_1)) < 32
              · rw [if_pos c12] at H
                have c12b0 : decide ((wrap64 (bt a0 x4_1)) < 32) = true := decide_eq_true c12
                clear c12
                by_cases c13 : x3_1.size + 1 ≤ 9223372036854775807
                · rw [if_pos c13] at H
                  have c13b0 := eq_true c13
                  have c13b1 : decide (x3_1.size + 1 ≤ 9223372036854775807) = true := decide_eq_true c13
                  try have c13b2 : (9223372036854775807 < x3_1.size + 1) = False := eq_false (Nat.not_lt.2 c13)
                  replace H := Option.bind_eq_some_iff.mp H
                  obtain ⟨t176, A140, H⟩ := H
                  replace H : (if (x3_1 ++ (⟨#[37]⟩ : ByteArray)).size + t176.size ≤ 9223372036854775807 then (spec_OD39Pairs.l0 k1 a0 ((x3_1 ++ (⟨#[37]⟩ : ByteArray)) ++ t176) (wrap64 (x4_1 + 1))) else (none)) = some r := H
                  have A14 := Aside0.mk A140
                  clear A140
                  by_cases c15 : (x3_1 ++ (⟨#[37]⟩ : ByteArray)).size + t176.size ≤ 9223372036854775807
                  · rw [if_pos c15] at H
                    have c15b0 := eq_true c15
                    have c15b1 : decide ((x3_1 ++ (⟨#[37]⟩ : ByteArray)).size + t176.size ≤ 9223372036854775807) = true := decide_eq_true c15
                    try have c15b2 : (9223372036854775807 < (x3_1 ++ (⟨#[37]⟩ : ByteArray)).size + t176.size) = False := eq_false (Nat.not_lt.2 c15)
                    have c15y : x3_1.size + 1 + t176.size ≤ 9223372036854775807 := by have h_ := c15; simp only [ByteArray.size_append] at h_; exact h_
                    have c15y0 := eq_true c15y
                    have c15y1 : decide (x3_1.size + 1 + t176.size ≤ 9223372036854775807) = true := decide_eq_true c15y
                    have c15y2 : (9223372036854775807 < x3_1.size + 1 + t176.size) = False := eq_false (Nat.not_lt.2 c15y)
                    have H' := Aside0.mk H
                    clear H
                    have p4 : 0 ≤ (x4_1 : Int) := of_decide_eq_true (by first | (with_reducible assumption) | assumption)
                    have q4 : x4_1 < (a0.size : Int) := of_decide_eq_true (by first | (with_reducible assumption) | assumption)
                    have hx4 := bt_at a0 x4_1
                    replace p4 := eq_true p4
                    replace q4 := eq_true q4
                    go_wp2_with (first | ((with_reducible refine gate_callee (f := 62) rfl ?_); refine goesL_ (some 44) rfl rfl Tryz.func62 (by kernel_rfl) rfl #[.int .i64 (wrap64 ((wrap64 (bt a0 x4_1)) - 27))] rfl (by (try simp only [List.map_toArray, List.map_cons, List.map_nil]); first | done | rfl | (simp only [List.length_drop, List.length_take]; rfl)) ?_; (with_reducible refine (spec_odLetter.calls (wrap64 ((wrap64 (bt a0 x4_1)) - 27)) t176 _ A14.out).mono ?_); rintro e w16 ⟨rfl, hb⟩; refine ⟨_, rfl, ?_⟩; have n0_ := Aside0.mk (below_step (by repeat (first | (with_reducible first | exact HB.out | apply below_alloc | apply pw_below_drewN | apply below_drew1) | exact HB.out)) hb); clear HB; have HB := n0_; clear n0_; (try clear hb); (try clear hb2); (try clear hk); (try clear hi)))
                    go_roundg k1
                    case measure => have := HK1.out; omega
                    case rel => exact ⟨((x3_1 ++ (⟨#[37]⟩ : ByteArray)) ++ t176), (wrap64 (x4_1 + 1)), (by first | rfl | (simp; done) | (simp [*]; done)), (by first | rfl | (simp; done) | (simp [*]; done)), H', ⟨by have := HK1.out; omega⟩, ⟨by repeat (first | (with_reducible first | exact HB.out | apply below_alloc | apply pw_below_drewN | apply below_drew1) | exact HB.out)⟩⟩
                  · rw [if_neg c15] at H
                    exact absurd H (by simp)
                · rw [if_neg c13] at H
                  exact absurd H (by simp)
              · rw [if_neg c12] at H
                have c12b0 : decide ((wrap64 (bt a0 x4_1)) < 32) = false := decide_eq_false c12
                clear c12
                have HC17 := Aside0.mk H
                clear H
                have p4 : 0 ≤ (x4_1 : Int) := of_decide_eq_true (by first | (with_reducible assumption) | assumption)
                have q4 : x4_1 < (a0.size : Int) := of_decide_eq_true (by first | (with_reducible assumption) | assumption)
                have hx4 := bt_at a0 x4_1
                replace p4 := eq_true p4
                replace q4 := eq_true q4
                go_upto_region 13 with (fail)
                go_cut [46] (fun v46 wc => ∃ (kq : Nat) (x46_16 : Bool), v46 = .bool x46_16 ∧ Aside0 (spec_OD39Pairs.j1 kq a0 x3_1 x4_1 (wrap64 (bt a0 x4_1)) x46_16 = some r) ∧ Aside0 (kq ≤ k1) ∧ Aside0 (Below w.heap.size w wc))
                case first =>
                  have H := HC17.out
                  clear HC17
                  by_cases c18 : (wrap64 (bt a0 x4_1)) = 32
                  · rw [if_pos c18] at H
                    have c18b0 : ((wrap64 (bt a0 x4_1)) == 32) = true := beq_iff_eq.mpr c18
                    have c18b1 : ((wrap64 (bt a0 x4_1)) != 32) = false := bne_eq_false_iff_eq.mpr c18
                    clear c18
                    (first | rw [c18b0] | (simp only [i64_w, i32_w]; rw [c18b0]) | skip)
                    have H' := Aside0.mk H
                    clear H
                    go_wp2
                    go_meet
                    case rel => exact ⟨_, (true), (by first | rfl | (simp; done) | (simp [*]; done)), H', ⟨by have := HK1.out; first | omega | exact Nat.le_refl _⟩, ⟨by repeat (first | (with_reducible first | exact HB.out | apply below_alloc | apply pw_below_drewN | apply below_drew1) | exact HB.out)⟩⟩
                  · rw [if_neg c18] at H
                    have c18b0 : ((wrap64 (bt a0 x4_1)) == 32) = false := beq_eq_false_iff_ne.mpr c18
                    have c18b1 : ((wrap64 (bt a0 x4_1)) != 32) = true := bne_iff_ne.mpr c18
                    (first | rw [c18b0] | (simp only [i64_w, i32_w]; rw [c18b0]) | skip)
                    by_cases c19 : (wrap64 (bt a0 x4_1)) = 45
                    · rw [if_pos c19] at H
                      have c19b0 : ((wrap64 (bt a0 x4_1)) == 45) = true := beq_iff_eq.mpr c19
                      have c19b1 : ((wrap64 (bt a0 x4_1)) != 45) = false := bne_eq_false_iff_eq.mpr c19
                      clear c19
                      have H' := Aside0.mk H
                      clear H
                      go_wp2
                      go_meet
                      case rel => exact ⟨_, (true), (by first | rfl | (simp; done) | (simp [*]; done)), H', ⟨by have := HK1.out; first | omega | exact Nat.le_refl _⟩, ⟨by repeat (first | (with_reducible first | exact HB.out | apply below_alloc | apply pw_below_drewN | apply below_drew1) | exact HB.out)⟩⟩
                    · rw [if_neg c19] at H
                      have c19b0 : ((wrap64 (bt a0 x4_1)) == 45) = false := beq_eq_false_iff_ne.mpr c19
                      have c19b1 : ((wrap64 (bt a0 x4_1)) != 45) = true := bne_iff_ne.mpr c19
                      by_cases c20 : (wrap64 (bt a0 x4_1)) = 46
                      · rw [if_pos c20] at H
                        have c20b0 : ((wrap64 (bt a0 x4_1)) == 46) = true := beq_iff_eq.mpr c20
                        have c20b1 : ((wrap64 (bt a0 x4_1)) != 46) = false := bne_eq_false_iff_eq.mpr c20
                        clear c20
                        have H' := Aside0.mk H
                        clear H
                        go_wp2
                        go_meet
                        case rel => exact ⟨_, (true), (by first | rfl | (simp; done) | (simp [*]; done)), H', ⟨by have := HK1.out; first | omega | exact Nat.le_refl _⟩, ⟨by repeat (first | (with_reducible first | exact HB.out | apply below_alloc | apply pw_below_drewN | apply below_drew1) | exact HB.out)⟩⟩
                      · rw [if_neg c20] at H
                        have c20b0 : ((wrap64 (bt a0 x4_1)) == 46) = false := beq_eq_false_iff_ne.mpr c20
                        have c20b1 : ((wrap64 (bt a0 x4_1)) != 46) = true := bne_iff_ne.mpr c20
                        by_cases c21 : (wrap64 (bt a0 x4_1)) ≥ 48
                        · rw [if_pos c21] at H
                          have c21b0 : decide (48 ≤ (wrap64 (bt a0 x4_1))) = true := decide_eq_true c21
                          clear c21
                          by_cases c22 : (wrap64 (bt a0 x4_1)) ≤ 57
                          · rw [if_pos c22] at H
                            have c22b0 : decide ((wrap64 (bt a0 x4_1)) ≤ 57) = true := decide_eq_true c22
                            clear c22
                            have H' := Aside0.mk H
                            clear H
                            go_wp2
                            go_meet
                            case rel => exact ⟨_, (true), (by first | rfl | (simp; done) | (simp [*]; done)), H', ⟨by have := HK1.out; first | omega | exact Nat.le_refl _⟩, ⟨by repeat (first | (with_reducible first | exact HB.out | apply below_alloc | apply pw_below_drewN | apply below_drew1) | exact HB.out)⟩⟩
                          · rw [if_neg c22] at H
                            have c22b0 : decide ((wrap64 (bt a0 x4_1)) ≤ 57) = false := decide_eq_false c22
                            clear c22
                            by_cases c23 : (wrap64 (bt a0 x4_1)) ≥ 65
                            · rw [if_pos c23] at H
                              have c23b0 : decide (65 ≤ (wrap64 (bt a0 x4_1))) = true := decide_eq_true c23
                              clear c23
                              have H' := Aside0.mk H
                              clear H
                              go_wp2
                              go_meet
                              case rel => exact ⟨_, (decide ((wrap64 (bt a0 x4_1)) ≤ 90)), (by first | rfl | (simp; done) | (simp [*]; done)), H', ⟨by have := HK1.out; first | omega | exact Nat.le_refl _⟩, ⟨by repeat (first | (with_reducible first | exact HB.out | apply below_alloc | apply pw_below_drewN | apply below_drew1) | exact HB.out)⟩⟩
                            · rw [if_neg c23] at H
                              have c23b0 : decide (65 ≤ (wrap64 (bt a0 x4_1))) = false := decide_eq_false c23
                              clear c23
                              have H' := Aside0.mk H
                              clear H
                              go_wp2
                              go_meet
                              case rel => exact ⟨_, (false), (by first | rfl | (simp; done) | (simp [*]; done)), H', ⟨by have := HK1.out; first | omega | exact Nat.le_refl _⟩, ⟨by repeat (first | (with_reducible first | exact HB.out | apply below_alloc | apply pw_below_drewN | apply below_drew1) | exact HB.out)⟩⟩
                        · rw [if_neg c21] at H
                          have c21b0 : decide (48 ≤ (wrap64 (bt a0 x4_1))) = false := decide_eq_false c21
                          clear c21
                          by_cases c24 : (wrap64 (bt a0 x4_1)) ≥ 65
                          · rw [if_pos c24] at H
                            have c24b0 : decide (65 ≤ (wrap64 (bt a0 x4_1))) = true := decide_eq_true c24
                            clear c24
                            have H' := Aside0.mk H
                            clear H
                            go_wp2
                            go_meet
                            case rel => exact ⟨_, (decide ((wrap64 (bt a0 x4_1)) ≤ 90)), (by first | rfl | (simp; done) | (simp [*]; done)), H', ⟨by have := HK1.out; first | omega | exact Nat.le_refl _⟩, ⟨by repeat (first | (with_reducible first | exact HB.out | apply below_alloc | apply pw_below_drewN | apply below_drew1) | exact HB.out)⟩⟩
                          · rw [if_neg c24] at H
                            have c24b0 : decide (65 ≤ (wrap64 (bt a0 x4_1))) = false := decide_eq_false c24
                            clear c24
                            have H' := Aside0.mk H
                            clear H
                            go_wp2
                            go_meet
                            case rel => exact ⟨_, (false), (by first | rfl | (simp; done) | (simp [*]; done)), H', ⟨by have := HK1.out; first | omega | exact Nat.le_refl _⟩, ⟨by repeat (first | (with_reducible first | exact HB.out | apply below_alloc | apply pw_below_drewN | apply below_drew1) | exact HB.out)⟩⟩
                case rest =>
                  clear HC17
                  try clear c1
                  try clear c2
                  try clear c2b0
                  try clear p2
                  try clear c3
                  try clear c3b0
                  try clear p4
                  try clear q4
                  try clear hx4
                  try clear c5
                  try clear c5b0
                  try clear c5b1
                  try clear c6
                  try clear c6b0
                  try clear c6b1
                  try clear c6b2
                  try clear p6
                  try clear c7
                  try clear c7b0
                  try clear c8
                  try clear c8b0
                  try clear c8b1
                  try clear c8b2
                  try clear c10
                  try clear c10b0
                  try clear c10b1
                  try clear c10b2
                  try clear c12
                  try clear c12b0
                  try clear c13
                  try clear c13b0
                  try clear c13b1
                  try clear c13b2
                  try clear c15
                  try clear c15b0
                  try clear c15b1
                  try clear c15b2
                  try clear c18
                  try clear c18b0
                  try clear c18b1
                  try clear c19
                  try clear c19b0
                  try clear c19b1
                  try clear c20
                  try clear c20b0
                  try clear c20b1
                  try clear c21
                  try clear c21b0
                  try clear c22
                  try clear c22b0
                  try clear c23
                  try clear c23b0
                  try clear c24
                  try clear c24b0
                  try clear p4
                  try clear q4
                  obtain ⟨kq, x46_16, rfl, HA, HJ16, HB⟩ := hcut
                  cases kq with
                  | zero => exact absurd HA.out (by simp [spec_OD39Pairs.j1])
                  | succ kj16 =>
                    have H := HA.out
                    clear HA
                    simp only [spec_OD39Pairs.j1] at H
                    by_cases c25 : x46_16 = true
                    · subst c25
                      have H1 : (if 0 ≤ x4_1 then (if x4_1 ≤ (wrap64 (x4_1 + 1)) then (if (wrap64 (x4_1 + 1)) ≤ (a0.size : Int) then (if x3_1.size + (a0.extract (x4_1 : Int).toNat ((wrap64 (x4_1 + 1)) : Int).toNat).size ≤ 9223372036854775807 then (spec_OD39Pairs.l0 kj16 a0 (x3_1 ++ (a0.extract (x4_1 : Int).toNat ((wrap64 (x4_1 + 1)) : Int).toNat)) (wrap64 (x4_1 + 1))) else (none)) else (none)) else (none)) else (none)) = some r := by rw [if_pos rfl] at H; exact H
                      clear H
                      have H := H1
                      clear H1
                      by_cases c26 : 0 ≤ x4_1
                      · rw [if_pos c26] at H
                        have c26b0 := eq_true c26
                        have c26b1 : decide (0 ≤ x4_1) = true := decide_eq_true c26
                        clear c26
                        by_cases c27 : x4_1 ≤ (wrap64 (x4_1 + 1))
                        · rw [if_pos c27] at H
                          have c27b0 := eq_true c27
                          have c27b1 : decide (x4_1 ≤ (wrap64 (x4_1 + 1))) = true := decide_eq_true c27
                          by_cases c28 : (wrap64 (x4_1 + 1)) ≤ (a0.size : Int)
                          · rw [if_pos c28] at H
                            have c28b0 := eq_true c28
                            have c28b1 : decide ((wrap64 (x4_1 + 1)) ≤ (a0.size : Int)) = true := decide_eq_true c28
                            by_cases c29 : x3_1.size + (a0.extract (x4_1 : Int).toNat ((wrap64 (x4_1 + 1)) : Int).toNat).size ≤ 9223372036854775807
                            · rw [if_pos c29] at H
                              have c29b0 := eq_true c29
                              have c29b1 : decide (x3_1.size + (a0.extract (x4_1 : Int).toNat ((wrap64 (x4_1 + 1)) : Int).toNat).size ≤ 9223372036854775807) = true := decide_eq_true c29
                              try have c29b2 : (9223372036854775807 < x3_1.size + (a0.extract (x4_1 : Int).toNat ((wrap64 (x4_1 + 1)) : Int).toNat).size) = False := eq_false (Nat.not_lt.2 c29)
                              have H' := Aside0.mk H
                              clear H
                              go_wp2
                              go_roundg kj16
                              case measure => have := HK1.out; have := HJ16.out; omega
                              case rel => exact ⟨(x3_1 ++ (a0.extract (x4_1 : Int).toNat ((wrap64 (x4_1 + 1)) : Int).toNat)), (wrap64 (x4_1 + 1)), (by first | rfl | (simp; done) | (simp [*]; done)), (by first | rfl | (simp; done) | (simp [*]; done)), H', ⟨by have := HK1.out; have := HJ16.out; omega⟩, ⟨by repeat (first | (with_reducible first | exact HB.out | apply below_alloc | apply pw_below_drewN | apply below_drew1) | exact HB.out)⟩⟩
                            · rw [if_neg c29] at H
                              exact absurd H (by simp)
                          · rw [if_neg c28] at H
                            exact absurd H (by simp)
                        · rw [if_neg c27] at H
                          exact absurd H (by simp)
                      · rw [if_neg c26] at H
                        exact absurd H (by simp)
                    · replace c25 := Bool.eq_false_iff.mpr c25
                      subst c25
                      have H1 : (if (wrap64 (bt a0 x4_1)) < 48 then (if x3_1.size + 1 ≤ 9223372036854775807 then ((spec_odLetter.f (wrap64 ((wrap64 (bt a0 x4_1)) - 33))).bind fun t177 => (if (x3_1 ++ (⟨#[47]⟩ : ByteArray)).size + t177.size ≤ 9223372036854775807 then (spec_OD39Pairs.l0 kj16 a0 ((x3_1 ++ (⟨#[47]⟩ : ByteArray)) ++ t177) (wrap64 (x4_1 + 1))) else (none))) else (none)) else (if (wrap64 (bt a0 x4_1)) = 58 then (if x3_1.size + 2 ≤ 9223372036854775807 then (spec_OD39Pairs.l0 kj16 a0 (x3_1 ++ (⟨#[47, 90]⟩ : ByteArray)) (wrap64 (x4_1 + 1))) else (none)) else (if (wrap64 (bt a0 x4_1)) < 64 then (if x3_1.size + 1 ≤ 9223372036854775807 then ((spec_odLetter.f (wrap64 ((wrap64 (5 + (wrap64 (bt a0 x4_1)))) - 59))).bind fun t178 => (if (x3_1 ++ (⟨#[37]⟩ : ByteArray)).size + t178.size ≤ 9223372036854775807 then (spec_OD39Pairs.l0 kj16 a0 ((x3_1 ++ (⟨#[37]⟩ : ByteArray)) ++ t178) (wrap64 (x4_1 + 1))) else (none))) else (none)) else (if (wrap64 (bt a0 x4_1)) = 64 then (if x3_1.size + 2 ≤ 9223372036854775807 then (spec_OD39Pairs.l0 kj16 a0 (x3_1 ++ (⟨#[37, 86]⟩ : ByteArray)) (wrap64 (x4_1 + 1))) else (none)) else (if (wrap64 (bt a0 x4_1)) < 96 then (if x3_1.size + 1 ≤ 9223372036854775807 then ((spec_odLetter.f (wrap64 ((wrap64 (10 + (wrap64 (bt a0 x4_1)))) - 91))).bind fun t179 => (if (x3_1 ++ (⟨#[37]⟩ : ByteArray)).size + t179.size ≤ 9223372036854775807 then (spec_OD39Pairs.l0 kj16 a0 ((x3_1 ++ (⟨#[37]⟩ : ByteArray)) ++ t179) (wrap64 (x4_1 + 1))) else (none))) else (none)) else (if (wrap64 (bt a0 x4_1)) = 96 then (if x3_1.size + 2 ≤ 9223372036854775807 then (spec_OD39Pairs.l0 kj16 a0 (x3_1 ++ (⟨#[37, 87]⟩ : ByteArray)) (wrap64 (x4_1 + 1))) else (none)) else (if (wrap64 (bt a0 x4_1)) ≤ 122 then (if x3_1.size + 1 ≤ 9223372036854775807 then ((spec_odLetter.f (wrap64 ((wrap64 (bt a0 x4_1)) - 97))).bind fun t180 => (if (x3_1 ++ (⟨#[43]⟩ : ByteArray)).size + t180.size ≤ 9223372036854775807 then (spec_OD39Pairs.l0 kj16 a0 ((x3_1 ++ (⟨#[43]⟩ : ByteArray)) ++ t180) (wrap64 (x4_1 + 1))) else (none))) else (none)) else (if x3_1.size + 1 ≤ 9223372036854775807 then ((spec_odLetter.f (wrap64 ((wrap64 (15 + (wrap64 (bt a0 x4_1)))) - 123))).bind fun t181 => (if (x3_1 ++ (⟨#[37]⟩ : ByteArray)).size + t181.size ≤ 9223372036854775807 then (spec_OD39Pairs.l0 kj16 a0 ((x3_1 ++ (⟨#[37]⟩ : ByteArray)) ++ t181) (wrap64 (x4_1 + 1))) else (none))) else (none))))))))) = some r := by rw [if_neg (show ¬ (false = true) by decide)] at H; exact H
                      clear H
                      have H := H1
                      clear H1
                      by_cases c30 : (wrap64 (bt a0 x4_1)) < 48
                      · rw [if_pos c30] at H
                        have c30b0 : decide ((wrap64 (bt a0 x4_1)) < 48) = true := decide_eq_true c30
                        clear c30
                        by_cases c31 : x3_1.size + 1 ≤ 9223372036854775807
                        · rw [if_pos c31] at H
                          have c31b0 := eq_true c31
                          have c31b1 : decide (x3_1.size + 1 ≤ 9223372036854775807) = true := decide_eq_true c31
                          try have c31b2 : (9223372036854775807 < x3_1.size + 1) = False := eq_false (Nat.not_lt.2 c31)
                          replace H := Option.bind_eq_some_iff.mp H
                          obtain ⟨t177, A320, H⟩ := H
                          replace H : (if (x3_1 ++ (⟨#[47]⟩ : ByteArray)).size + t177.size ≤ 9223372036854775807 then (spec_OD39Pairs.l0 kj16 a0 ((x3_1 ++ (⟨#[47]⟩ : ByteArray)) ++ t177) (wrap64 (x4_1 + 1))) else (none)) = some r := H
                          have A32 := Aside0.mk A320
                          clear A320
                          by_cases c33 : (x3_1 ++ (⟨#[47]⟩ : ByteArray)).size + t177.size ≤ 9223372036854775807
                          · rw [if_pos c33] at H
                            have c33b0 := eq_true c33
                            have c33b1 : decide ((x3_1 ++ (⟨#[47]⟩ : ByteArray)).size + t177.size ≤ 9223372036854775807) = true := decide_eq_true c33
                            try have c33b2 : (9223372036854775807 < (x3_1 ++ (⟨#[47]⟩ : ByteArray)).size + t177.size) = False := eq_false (Nat.not_lt.2 c33)
                            have c33y : x3_1.size + 1 + t177.size ≤ 9223372036854775807 := by have h_ := c33; simp only [ByteArray.size_append] at h_; exact h_
                            have c33y0 := eq_true c33y
                            have c33y1 : decide (x3_1.size + 1 + t177.size ≤ 9223372036854775807) = true := decide_eq_true c33y
                            have c33y2 : (9223372036854775807 < x3_1.size + 1 + t177.size) = False := eq_false (Nat.not_lt.2 c33y)
                            have H' := Aside0.mk H
                            clear H
                            go_wp2_with (first | ((with_reducible refine gate_callee (f := 62) rfl ?_); refine goesL_ (some 87) rfl rfl Tryz.func62 (by kernel_rfl) rfl #[.int .i64 (wrap64 ((wrap64 (bt a0 x4_1)) - 33))] rfl (by (try simp only [List.map_toArray, List.map_cons, List.map_nil]); first | done | rfl | (simp only [List.length_drop, List.length_take]; rfl)) ?_; (with_reducible refine (spec_odLetter.calls (wrap64 ((wrap64 (bt a0 x4_1)) - 33)) t177 _ A32.out).mono ?_); rintro e w34 ⟨rfl, hb⟩; refine ⟨_, rfl, ?_⟩; have n0_ := Aside0.mk (below_step (by repeat (first | (with_reducible first | exact HB.out | apply below_alloc | apply pw_below_drewN | apply below_drew1) | exact HB.out)) hb); clear HB; have HB := n0_; clear n0_; (try clear hb); (try clear hb2); (try clear hk); (try clear hi)))
                            go_roundg kj16
                            case measure => have := HK1.out; have := HJ16.out; omega
                            case rel => exact ⟨((x3_1 ++ (⟨#[47]⟩ : ByteArray)) ++ t177), (wrap64 (x4_1 + 1)), (by first | rfl | (simp; done) | (simp [*]; done)), (by first | rfl | (simp; done) | (simp [*]; done)), H', ⟨by have := HK1.out; have := HJ16.out; omega⟩, ⟨by repeat (first | (with_reducible first | exact HB.out | apply below_alloc | apply pw_below_drewN | apply below_drew1) | exact HB.out)⟩⟩
                          · rw [if_neg c33] at H
                            exact absurd H (by simp)
                        · rw [if_neg c31] at H
                          exact absurd H (by simp)
                      · rw [if_neg c30] at H
                        have c30b0 : decide ((wrap64 (bt a0 x4_1)) < 48) = false := decide_eq_false c30
                        clear c30
                        by_cases c35 : (wrap64 (bt a0 x4_1)) = 58
                        · rw [if_pos c35] at H
                          have c35b0 : ((wrap64 (bt a0 x4_1)) == 58) = true := beq_iff_eq.mpr c35
                          have c35b1 : ((wrap64 (bt a0 x4_1)) != 58) = false := bne_eq_false_iff_eq.mpr c35
                          clear c35
                          by_cases c36 : x3_1.size + 2 ≤ 9223372036854775807
                          · rw [if_pos c36] at H
                            have c36b0 := eq_true c36
                            have c36b1 : decide (x3_1.size + 2 ≤ 9223372036854775807) = true := decide_eq_true c36
                            try have c36b2 : (9223372036854775807 < x3_1.size + 2) = False := eq_false (Nat.not_lt.2 c36)
                            have H' := Aside0.mk H
                            clear H
                            go_wp2
                            go_roundg kj16
                            case measure => have := HK1.out; have := HJ16.out; omega
                            case rel => exact ⟨(x3_1 ++ (⟨#[47, 90]⟩ : ByteArray)), (wrap64 (x4_1 + 1)), (by first | rfl | (simp; done) | (simp [*]; done)), (by first | rfl | (simp; done) | (simp [*]; done)), H', ⟨by have := HK1.out; have := HJ16.out; omega⟩, ⟨by repeat (first | (with_reducible first | exact HB.out | apply below_alloc | apply pw_below_drewN | apply below_drew1) | exact HB.out)⟩⟩
                          · rw [if_neg c36] at H
                            exact absurd H (by simp)
                        · rw [if_neg c35] at H
                          have c35b0 : ((wrap64 (bt a0 x4_1)) == 58) = false := beq_eq_false_iff_ne.mpr c35
                          have c35b1 : ((wrap64 (bt a0 x4_1)) != 58) = true := bne_iff_ne.mpr c35
                          by_cases c37 : (wrap64 (bt a0 x4_1)) < 64
                          · rw [if_pos c37] at H
                            have c37b0 : decide ((wrap64 (bt a0 x4_1)) < 64) = true := decide_eq_true c37
                            clear c37
                            by_cases c38 : x3_1.size + 1 ≤ 9223372036854775807
                            · rw [if_pos c38] at H
                              have c38b0 := eq_true c38
                              have c38b1 : decide (x3_1.size + 1 ≤ 9223372036854775807) = true := decide_eq_true c38
                              try have c38b2 : (9223372036854775807 < x3_1.size + 1) = False := eq_false (Nat.not_lt.2 c38)
                              replace H := Option.bind_eq_some_iff.mp H
                              obtain ⟨t178, A390, H⟩ := H
                              replace H : (if (x3_1 ++ (⟨#[37]⟩ : ByteArray)).size + t178.size ≤ 9223372036854775807 then (spec_OD39Pairs.l0 kj16 a0 ((x3_1 ++ (⟨#[37]⟩ : ByteArray)) ++ t178) (wrap64 (x4_1 + 1))) else (none)) = some r := H
                              have A39 := Aside0.mk A390
                              clear A390
                              by_cases c40 : (x3_1 ++ (⟨#[37]⟩ : ByteArray)).size + t178.size ≤ 9223372036854775807
                              · rw [if_pos c40] at H
                                have c40b0 := eq_true c40
                                have c40b1 : decide ((x3_1 ++ (⟨#[37]⟩ : ByteArray)).size + t178.size ≤ 9223372036854775807) = true := decide_eq_true c40
                                try have c40b2 : (9223372036854775807 < (x3_1 ++ (⟨#[37]⟩ : ByteArray)).size + t178.size) = False := eq_false (Nat.not_lt.2 c40)
                                have c40y : x3_1.size + 1 + t178.size ≤ 9223372036854775807 := by have h_ := c40; simp only [ByteArray.size_append] at h_; exact h_
                                have c40y0 := eq_true c40y
                                have c40y1 : decide (x3_1.size + 1 + t178.size ≤ 9223372036854775807) = true := decide_eq_true c40y
                                have c40y2 : (9223372036854775807 < x3_1.size + 1 + t178.size) = False := eq_false (Nat.not_lt.2 c40y)
                                have H' := Aside0.mk H
                                clear H
                                go_wp2_with (first | ((with_reducible refine gate_callee (f := 62) rfl ?_); refine goesL_ (some 102) rfl rfl Tryz.func62 (by kernel_rfl) rfl #[.int .i64 (wrap64 ((wrap64 (5 + (wrap64 (bt a0 x4_1)))) - 59))] rfl (by (try simp only [List.map_toArray, List.map_cons, List.map_nil]); first | done | rfl | (simp only [List.length_drop, List.length_take]; rfl)) ?_; (with_reducible refine (spec_odLetter.calls (wrap64 ((wrap64 (5 + (wrap64 (bt a0 x4_1)))) - 59)) t178 _ A39.out).mono ?_); rintro e w41 ⟨rfl, hb⟩; refine ⟨_, rfl, ?_⟩; have n0_ := Aside0.mk (below_step (by repeat (first | (with_reducible first | exact HB.out | apply below_alloc | apply pw_below_drewN | apply below_drew1) | exact HB.out)) hb); clear HB; have HB := n0_; clear n0_; (try clear hb); (try clear hb2); (try clear hk); (try clear hi)))
                                go_roundg kj16
                                case measure => have := HK1.out; have := HJ16.out; omega
                                case rel => exact ⟨((x3_1 ++ (⟨#[37]⟩ : ByteArray)) ++ t178), (wrap64 (x4_1 + 1)), (by first | rfl | (simp; done) | (simp [*]; done)), (by first | rfl | (simp; done) | (simp [*]; done)), H', ⟨by have := HK1.out; have := HJ16.out; omega⟩, ⟨by repeat (first | (with_reducible first | exact HB.out | apply below_alloc | apply pw_below_drewN | apply below_drew1) | exact HB.out)⟩⟩
                              · rw [if_neg c40] at H
                                exact absurd H (by simp)
                            · rw [if_neg c38] at H
                              exact absurd H (by simp)
                          · rw [if_neg c37] at H
                            have c37b0 : decide ((wrap64 (bt a0 x4_1)) < 64) = false := decide_eq_false c37
                            clear c37
                            by_cases c42 : (wrap64 (bt a0 x4_1)) = 64
                            · rw [if_pos c42] at H
                              have c42b0 : ((wrap64 (bt a0 x4_1)) == 64) = true := beq_iff_eq.mpr c42
                              have c42b1 : ((wrap64 (bt a0 x4_1)) != 64) = false := bne_eq_false_iff_eq.mpr c42
                              clear c42
                              by_cases c43 : x3_1.size + 2 ≤ 9223372036854775807
                              · rw [if_pos c43] at H
                                have c43b0 := eq_true c43
                                have c43b1 : decide (x3_1.size + 2 ≤ 9223372036854775807) = true := decide_eq_true c43
                                try have c43b2 : (9223372036854775807 < x3_1.size + 2) = False := eq_false (Nat.not_lt.2 c43)
                                have H' := Aside0.mk H
                                clear H
                                go_wp2
                                go_roundg kj16
                                case measure => have := HK1.out; have := HJ16.out; omega
                                case rel => exact ⟨(x3_1 ++ (⟨#[37, 86]⟩ : ByteArray)), (wrap64 (x4_1 + 1)), (by first | rfl | (simp; done) | (simp [*]; done)), (by first | rfl | (simp; done) | (simp [*]; done)), H', ⟨by have := HK1.out; have := HJ16.out; omega⟩, ⟨by repeat (first | (with_reducible first | exact HB.out | apply below_alloc | apply pw_below_drewN | apply below_drew1) | exact HB.out)⟩⟩
                              · rw [if_neg c43] at H
                                exact absurd H (by simp)
                            · rw [if_neg c42] at H
                              have c42b0 : ((wrap64 (bt a0 x4_1)) == 64) = false := beq_eq_false_iff_ne.mpr c42
                              have c42b1 : ((wrap64 (bt a0 x4_1)) != 64) = true := bne_iff_ne.mpr c42
                              by_cases c44 : (wrap64 (bt a0 x4_1)) < 96
                              · rw [if_pos c44] at H
                                have c44b0 : decide ((wrap64 (bt a0 x4_1)) < 96) = true := decide_eq_true c44
                                clear c44
                                by_cases c45 : x3_1.size + 1 ≤ 9223372036854775807
                                · rw [if_pos c45] at H
                                  have c45b0 := eq_true c45
                                  have c45b1 : decide (x3_1.size + 1 ≤ 9223372036854775807) = true := decide_eq_true c45
                                  try have c45b2 : (9223372036854775807 < x3_1.size + 1) = False := eq_false (Nat.not_lt.2 c45)
                                  replace H := Option.bind_eq_some_iff.mp H
                                  obtain ⟨t179, A460, H⟩ := H
                                  replace H : (if (x3_1 ++ (⟨#[37]⟩ : ByteArray)).size + t179.size ≤ 9223372036854775807 then (spec_OD39Pairs.l0 kj16 a0 ((x3_1 ++ (⟨#[37]⟩ : ByteArray)) ++ t179) (wrap64 (x4_1 + 1))) else (none)) = some r := H
                                  have A46 := Aside0.mk A460
                                  clear A460
                                  by_cases c47 : (x3_1 ++ (⟨#[37]⟩ : ByteArray)).size + t179.size ≤ 9223372036854775807
                                  · rw [if_pos c47] at H
                                    have c47b0 := eq_true c47
                                    have c47b1 : decide ((x3_1 ++ (⟨#[37]⟩ : ByteArray)).size + t179.size ≤ 9223372036854775807) = true := decide_eq_true c47
                                    try have c47b2 : (9223372036854775807 < (x3_1 ++ (⟨#[37]⟩ : ByteArray)).size + t179.size) = False := eq_false (Nat.not_lt.2 c47)
                                    have c47y : x3_1.size + 1 + t179.size ≤ 9223372036854775807 := by have h_ := c47; simp only [ByteArray.size_append] at h_; exact h_
                                    have c47y0 := eq_true c47y
                                    have c47y1 : decide (x3_1.size + 1 + t179.size ≤ 9223372036854775807) = true := decide_eq_true c47y
                                    have c47y2 : (9223372036854775807 < x3_1.size + 1 + t179.size) = False := eq_false (Nat.not_lt.2 c47y)
                                    have H' := Aside0.mk H
                                    clear H
                                    go_wp2_with (first | ((with_reducible refine gate_callee (f := 62) rfl ?_); refine goesL_ (some 117) rfl rfl Tryz.func62 (by kernel_rfl) rfl #[.int .i64 (wrap64 ((wrap64 (10 + (wrap64 (bt a0 x4_1)))) - 91))] rfl (by (try simp only [List.map_toArray, List.map_cons, List.map_nil]); first | done | rfl | (simp only [List.length_drop, List.length_take]; rfl)) ?_; (with_reducible refine (spec_odLetter.calls (wrap64 ((wrap64 (10 + (wrap64 (bt a0 x4_1)))) - 91)) t179 _ A46.out).mono ?_); rintro e w48 ⟨rfl, hb⟩; refine ⟨_, rfl, ?_⟩; have n0_ := Aside0.mk (below_step (by repeat (first | (with_reducible first | exact HB.out | apply below_alloc | apply pw_below_drewN | apply below_drew1) | exact HB.out)) hb); clear HB; have HB := n0_; clear n0_; (try clear hb); (try clear hb2); (try clear hk); (try clear hi)))
                                    go_roundg kj16
                                    case measure => have := HK1.out; have := HJ16.out; omega
                                    case rel => exact ⟨((x3_1 ++ (⟨#[37]⟩ : ByteArray)) ++ t179), (wrap64 (x4_1 + 1)), (by first | rfl | (simp; done) | (simp [*]; done)), (by first | rfl | (simp; done) | (simp [*]; done)), H', ⟨by have := HK1.out; have := HJ16.out; omega⟩, ⟨by repeat (first | (with_reducible first | exact HB.out | apply below_alloc | apply pw_below_drewN | apply below_drew1) | exact HB.out)⟩⟩
                                  · rw [if_neg c47] at H
                                    exact absurd H (by simp)
                                · rw [if_neg c45] at H
                                  exact absurd H (by simp)
                              · rw [if_neg c44] at H
                                have c44b0 : decide ((wrap64 (bt a0 x4_1)) < 96) = false := decide_eq_false c44
                                clear c44
                                by_cases c49 : (wrap64 (bt a0 x4_1)) = 96
                                · rw [if_pos c49] at H
                                  have c49b0 : ((wrap64 (bt a0 x4_1)) == 96) = true := beq_iff_eq.mpr c49
                                  have c49b1 : ((wrap64 (bt a0 x4_1)) != 96) = false := bne_eq_false_iff_eq.mpr c49
                                  clear c49
                                  by_cases c50 : x3_1.size + 2 ≤ 9223372036854775807
                                  · rw [if_pos c50] at H
                                    have c50b0 := eq_true c50
                                    have c50b1 : decide (x3_1.size + 2 ≤ 9223372036854775807) = true := decide_eq_true c50
                                    try have c50b2 : (9223372036854775807 < x3_1.size + 2) = False := eq_false (Nat.not_lt.2 c50)
                                    have H' := Aside0.mk H
                                    clear H
                                    go_wp2
                                    go_roundg kj16
                                    case measure => have := HK1.out; have := HJ16.out; omega
                                    case rel => exact ⟨(x3_1 ++ (⟨#[37, 87]⟩ : ByteArray)), (wrap64 (x4_1 + 1)), (by first | rfl | (simp; done) | (simp [*]; done)), (by first | rfl | (simp; done) | (simp [*]; done)), H', ⟨by have := HK1.out; have := HJ16.out; omega⟩, ⟨by repeat (first | (with_reducible first | exact HB.out | apply below_alloc | apply pw_below_drewN | apply below_drew1) | exact HB.out)⟩⟩
                                  · rw [if_neg c50] at H
                                    exact absurd H (by simp)
                                · rw [if_neg c49] at H
                                  have c49b0 : ((wrap64 (bt a0 x4_1)) == 96) = false := beq_eq_false_iff_ne.mpr c49
                                  have c49b1 : ((wrap64 (bt a0 x4_1)) != 96) = true := bne_iff_ne.mpr c49
                                  by_cases c51 : (wrap64 (bt a0 x4_1)) ≤ 122
                                  · rw [if_pos c51] at H
                                    have c51b0 : decide ((wrap64 (bt a0 x4_1)) ≤ 122) = true := decide_eq_true c51
                                    clear c51
                                    by_cases c52 : x3_1.size + 1 ≤ 9223372036854775807
                                    · rw [if_pos c52] at H
                                      have c52b0 := eq_true c52
                                      have c52b1 : decide (x3_1.size + 1 ≤ 9223372036854775807) = true := decide_eq_true c52
                                      try have c52b2 : (9223372036854775807 < x3_1.size + 1) = False := eq_false (Nat.not_lt.2 c52)
                                      replace H := Option.bind_eq_some_iff.mp H
                                      obtain ⟨t180, A530, H⟩ := H
                                      replace H : (if (x3_1 ++ (⟨#[43]⟩ : ByteArray)).size + t180.size ≤ 9223372036854775807 then (spec_OD39Pairs.l0 kj16 a0 ((x3_1 ++ (⟨#[43]⟩ : ByteArray)) ++ t180) (wrap64 (x4_1 + 1))) else (none)) = some r := H
                                      have A53 := Aside0.mk A530
                                      clear A530
                                      by_cases c54 : (x3_1 ++ (⟨#[43]⟩ : ByteArray)).size + t180.size ≤ 9223372036854775807
                                      · rw [if_pos c54] at H
                                        have c54b0 := eq_true c54
                                        have c54b1 : decide ((x3_1 ++ (⟨#[43]⟩ : ByteArray)).size + t180.size ≤ 9223372036854775807) = true := decide_eq_true c54
                                        try have c54b2 : (9223372036854775807 < (x3_1 ++ (⟨#[43]⟩ : ByteArray)).size + t180.size) = False := eq_false (Nat.not_lt.2 c54)
                                        have c54y : x3_1.size + 1 + t180.size ≤ 9223372036854775807 := by have h_ := c54; simp only [ByteArray.size_append] at h_; exact h_
                                        have c54y0 := eq_true c54y
                                        have c54y1 : decide (x3_1.size + 1 + t180.size ≤ 9223372036854775807) = true := decide_eq_true c54y
                                        have c54y2 : (9223372036854775807 < x3_1.size + 1 + t180.size) = False := eq_false (Nat.not_lt.2 c54y)
                                        have H' := Aside0.mk H
                                        clear H
                                        go_wp2_with (first | ((with_reducible refine gate_callee (f := 62) rfl ?_); refine goesL_ (some 131) rfl rfl Tryz.func62 (by kernel_rfl) rfl #[.int .i64 (wrap64 ((wrap64 (bt a0 x4_1)) - 97))] rfl (by (try simp only [List.map_toArray, List.map_cons, List.map_nil]); first | done | rfl | (simp only [List.length_drop, List.length_take]; rfl)) ?_; (with_reducible refine (spec_odLetter.calls (wrap64 ((wrap64 (bt a0 x4_1)) - 97)) t180 _ A53.out).mono ?_); rintro e w55 ⟨rfl, hb⟩; refine ⟨_, rfl, ?_⟩; have n0_ := Aside0.mk (below_step (by repeat (first | (with_reducible first | exact HB.out | apply below_alloc | apply pw_below_drewN | apply below_drew1) | exact HB.out)) hb); clear HB; have HB := n0_; clear n0_; (try clear hb); (try clear hb2); (try clear hk); (try clear hi)))
                                        go_roundg kj16
                                        case measure => have := HK1.out; have := HJ16.out; omega
                                        case rel => exact ⟨((x3_1 ++ (⟨#[43]⟩ : ByteArray)) ++ t180), (wrap64 (x4_1 + 1)), (by first | rfl | (simp; done) | (simp [*]; done)), (by first | rfl | (simp; done) | (simp [*]; done)), H', ⟨by have := HK1.out; have := HJ16.out; omega⟩, ⟨by repeat (first | (with_reducible first | exact HB.out | apply below_alloc | apply pw_below_drewN | apply below_drew1) | exact HB.out)⟩⟩
                                      · rw [if_neg c54] at H
                                        exact absurd H (by simp)
                                    · rw [if_neg c52] at H
                                      exact absurd H (by simp)
                                  · rw [if_neg c51] at H
                                    have c51b0 : decide ((wrap64 (bt a0 x4_1)) ≤ 122) = false := decide_eq_false c51
                                    clear c51
                                    by_cases c56 : x3_1.size + 1 ≤ 9223372036854775807
                                    · rw [if_pos c56] at H
                                      have c56b0 := eq_true c56
                                      have c56b1 : decide (x3_1.size + 1 ≤ 9223372036854775807) = true := decide_eq_true c56
                                      try have c56b2 : (9223372036854775807 < x3_1.size + 1) = False := eq_false (Nat.not_lt.2 c56)
                                      replace H := Option.bind_eq_some_iff.mp H
                                      obtain ⟨t181, A570, H⟩ := H
                                      replace H : (if (x3_1 ++ (⟨#[37]⟩ : ByteArray)).size + t181.size ≤ 9223372036854775807 then (spec_OD39Pairs.l0 kj16 a0 ((x3_1 ++ (⟨#[37]⟩ : ByteArray)) ++ t181) (wrap64 (x4_1 + 1))) else (none)) = some r := H
                                      have A57 := Aside0.mk A570
                                      clear A570
                                      by_cases c58 : (x3_1 ++ (⟨#[37]⟩ : ByteArray)).size + t181.size ≤ 9223372036854775807
                                      · rw [if_pos c58] at H
                                        have c58b0 := eq_true c58
                                        have c58b1 : decide ((x3_1 ++ (⟨#[37]⟩ : ByteArray)).size + t181.size ≤ 9223372036854775807) = true := decide_eq_true c58
                                        try have c58b2 : (9223372036854775807 < (x3_1 ++ (⟨#[37]⟩ : ByteArray)).size + t181.size) = False := eq_false (Nat.not_lt.2 c58)
                                        have c58y : x3_1.size + 1 + t181.size ≤ 9223372036854775807 := by have h_ := c58; simp only [ByteArray.size_append] at h_; exact h_
                                        have c58y0 := eq_true c58y
                                        have c58y1 : decide (x3_1.size + 1 + t181.size ≤ 9223372036854775807) = true := decide_eq_true c58y
                                        have c58y2 : (9223372036854775807 < x3_1.size + 1 + t181.size) = False := eq_false (Nat.not_lt.2 c58y)
                                        have H' := Aside0.mk H
                                        clear H
                                        go_wp2_with (first | ((with_reducible refine gate_callee (f := 62) rfl ?_); refine goesL_ (some 21) rfl rfl Tryz.func62 (by kernel_rfl) rfl #[.int .i64 (wrap64 ((wrap64 (15 + (wrap64 (bt a0 x4_1)))) - 123))] rfl (by (try simp only [List.map_toArray, List.map_cons, List.map_nil]); first | done | rfl | (simp only [List.length_drop, List.length_take]; rfl)) ?_; (with_reducible refine (spec_odLetter.calls (wrap64 ((wrap64 (15 + (wrap64 (bt a0 x4_1)))) - 123)) t181 _ A57.out).mono ?_); rintro e w59 ⟨rfl, hb⟩; refine ⟨_, rfl, ?_⟩; have n0_ := Aside0.mk (below_step (by repeat (first | (with_reducible first | exact HB.out | apply below_alloc | apply pw_below_drewN | apply below_drew1) | exact HB.out)) hb); clear HB; have HB := n0_; clear n0_; (try clear hb); (try clear hb2); (try clear hk); (try clear hi)))
                                        go_roundg kj16
                                        case measure => have := HK1.out; have := HJ16.out; omega
                                        case rel => exact ⟨((x3_1 ++ (⟨#[37]⟩ : ByteArray)) ++ t181), (wrap64 (x4_1 + 1)), (by first | rfl | (simp; done) | (simp [*]; done)), (by first | rfl | (simp; done) | (simp [*]; done)), H', ⟨by have := HK1.out; have := HJ16.out; omega⟩, ⟨by repeat (first | (with_reducible first | exact HB.out | apply below_alloc | apply pw_below_drewN | apply below_drew1) | exact HB.out)⟩⟩
                                      · rw [if_neg c58] at H
                                        exact absurd H (by simp)
                                    · rw [if_neg c56] at H
                                      exact absurd H (by simp)
        · rw [if_neg c3] at H
          exact absurd H (by simp)
      · rw [if_neg c2] at H
        have c2b0 : decide (x4_1 < (a0.size : Int)) = false := decide_eq_false c2
        clear c2
        obtain rfl := Option.some.inj H
        go_wp2
        go_ret
        exact ⟨by first | rfl | (simp [errW_none, errW_some] <;> rfl) | (simp [*, errW_none, errW_some] <;> rfl), by repeat (first | (with_reducible first | exact HB.out | apply below_alloc | apply pw_below_drewN | apply below_drew1) | exact HB.out)⟩

/-! ### spec_OD93Shifted: function 19 -/
mutual
def spec_OD93Shifted.l0 : Nat → ByteArray → ByteArray → Int → Option (ByteArray)
  | 0, _, _, _ => none
  | k + 1, x0, x3, x4 => if x4 < (x0.size : Int) then (if 0 ≤ x4 then (if (bt x0 x4) = 36 then (spec_OD93Shifted.j1 k x0 x3 x4 true) else (if (bt x0 x4) = 37 then (spec_OD93Shifted.j1 k x0 x3 x4 true) else (if (bt x0 x4) = 43 then (spec_OD93Shifted.j1 k x0 x3 x4 true) else (spec_OD93Shifted.j1 k x0 x3 x4 ((bt x0 x4) == 47))))) else (none)) else (some x3)
def spec_OD93Shifted.j1 : Nat → ByteArray → ByteArray → Int → Bool → Option (ByteArray)
  | 0, _, _, _, _ => none
  | k + 1, x0, x3, x4, x30 => if x30 = true then (if 0 ≤ x4 then (if x4 ≤ (wrap64 (x4 + 1)) then (if (wrap64 (x4 + 1)) ≤ (x0.size : Int) then (if x3.size + (x0.extract (x4 : Int).toNat ((wrap64 (x4 + 1)) : Int).toNat).size ≤ 9223372036854775807 then (spec_OD93Shifted.l0 k x0 (x3 ++ (x0.extract (x4 : Int).toNat ((wrap64 (x4 + 1)) : Int).toNat)) (wrap64 (x4 + 1))) else (none)) else (none)) else (none)) else (none)) else (if 0 ≤ x4 then (if x4 ≤ (wrap64 (x4 + 1)) then (if (wrap64 (x4 + 1)) ≤ (x0.size : Int) then ((spec_OD39Pairs.f k (x0.extract (x4 : Int).toNat ((wrap64 (x4 + 1)) : Int).toNat)).bind fun t182 => (if (t182.size : Int) = 2 then (if 0 < (t182.size : Int) then ((spec_odAt.f k (⟨#[36, 37, 47, 43]⟩ : ByteArray) (bt t182 0)).bind fun t183 => (if 0 ≤ t183 then (if t183 ≤ (wrap64 (t183 + 1)) then (if (wrap64 (t183 + 1)) ≤ 4 then (if 1 ≤ (t182.size : Int) then (if ((⟨#[97, 98, 99, 100]⟩ : ByteArray).extract (t183 : Int).toNat ((wrap64 (t183 + 1)) : Int).toNat).size + (t182.extract 1 t182.size).size ≤ 9223372036854775807 then (if x3.size + (((⟨#[97, 98, 99, 100]⟩ : ByteArray).extract (t183 : Int).toNat ((wrap64 (t183 + 1)) : Int).toNat) ++ (t182.extract 1 t182.size)).size ≤ 9223372036854775807 then (spec_OD93Shifted.l0 k x0 (x3 ++ (((⟨#[97, 98, 99, 100]⟩ : ByteArray).extract (t183 : Int).toNat ((wrap64 (t183 + 1)) : Int).toNat) ++ (t182.extract 1 t182.size))) (wrap64 (x4 + 1))) else (none)) else (none)) else (none)) else (none)) else (none)) else (none))) else (none)) else (if x3.size + t182.size ≤ 9223372036854775807 then (spec_OD93Shifted.l0 k x0 (x3 ++ t182) (wrap64 (x4 + 1))) else (none)))) else (none)) else (none)) else (none))
end
def spec_OD93Shifted.f (k : Nat) (a0 : ByteArray) : Option (ByteArray) := spec_OD93Shifted.l0 k a0 (⟨#[]⟩ : ByteArray) 0
theorem spec_OD93Shifted.mono_l : ∀ k, (∀ y0 y1 y2, LeO (spec_OD93Shifted.l0 k y0 y1 y2) (spec_OD93Shifted.l0 (k + 1) y0 y1 y2)) ∧ (∀ y0 y1 y2 y3, LeO (spec_OD93Shifted.j1 k y0 y1 y2 y3) (spec_OD93Shifted.j1 (k + 1) y0 y1 y2 y3))
  | 0 => ⟨fun _ _ _ r h => by simp [spec_OD93Shifted.l0] at h, fun _ _ _ _ r h => by simp [spec_OD93Shifted.j1] at h⟩
  | k + 1 => by
    obtain ⟨ih0, ih1⟩ := spec_OD93Shifted.mono_l k
    refine ⟨?_, ?_⟩
    · intro y0 y1 y2
      unfold spec_OD93Shifted.l0
      repeat' first
      | (with_reducible exact ih0 _ _ _)
      | (with_reducible exact ih1 _ _ _ _)
      | (with_reducible exact spec_OD39Pairs.mono _ _)
      | (with_reducible exact spec_odAt.mono _ _ _)
      | (with_reducible exact LeO.refl _)
      | (with_reducible exact LeO.none _)
      | (with_reducible refine LeO.ite ?_ ?_)
      | (with_reducible refine LeO.bind ?_ (fun _ => ?_))
      | exact ih0 _ _ _
      | exact ih1 _ _ _ _
      | exact spec_OD39Pairs.mono _ _
      | exact spec_odAt.mono _ _ _
      | exact LeO.none _
      | refine LeO.ite ?_ ?_
      | refine LeO.bind ?_ (fun _ => ?_)
    · intro y0 y1 y2 y3
      unfold spec_OD93Shifted.j1
      repeat' first
      | (with_reducible exact ih0 _ _ _)
      | (with_reducible exact ih1 _ _ _ _)
      | (with_reducible exact spec_OD39Pairs.mono _ _)
      | (with_reducible exact spec_odAt.mono _ _ _)
      | (with_reducible exact LeO.refl _)
      | (with_reducible exact LeO.none _)
      | (with_reducible refine LeO.ite ?_ ?_)
      | (with_reducible refine LeO.bind ?_ (fun _ => ?_))
      | exact ih0 _ _ _
      | exact ih1 _ _ _ _
      | exact spec_OD39Pairs.mono _ _
      | exact spec_odAt.mono _ _ _
      | exact LeO.none _
      | refine LeO.ite ?_ ?_
      | refine LeO.bind ?_ (fun _ => ?_)
theorem spec_OD93Shifted.mono : ∀ a0 k, LeO (spec_OD93Shifted.f k a0) (spec_OD93Shifted.f (k + 1) a0) := by
  intro a0 k
  obtain ⟨ih0, ih1⟩ := spec_OD93Shifted.mono_l k
  unfold spec_OD93Shifted.f
  repeat' first
      | (with_reducible exact ih0 _ _ _)
      | (with_reducible exact ih1 _ _ _ _)
      | (with_reducible exact spec_OD39Pairs.mono _ _)
      | (with_reducible exact spec_odAt.mono _ _ _)
      | (with_reducible exact LeO.refl _)
      | (with_reducible exact LeO.none _)
      | (with_reducible refine LeO.ite ?_ ?_)
      | (with_reducible refine LeO.bind ?_ (fun _ => ?_))
      | exact ih0 _ _ _
      | exact ih1 _ _ _ _
      | exact spec_OD39Pairs.mono _ _
      | exact spec_odAt.mono _ _ _
      | exact LeO.none _
      | refine LeO.ite ?_ ?_
      | refine LeO.bind ?_ (fun _ => ?_)
set_option maxHeartbeats 8000000 in
set_option maxRecDepth 100000 in
theorem spec_OD93Shifted.calls (k : Nat) (a0 : ByteArray) (r : ByteArray) (w : World) (h : spec_OD93Shifted.f k a0 = some r) :
    Calls Tryz.prog 19 #[.string a0] w fun e w' => e = .returned (.string r) ∧ Below w.heap.size w w' := by
  have HB := Aside0.mk (Below.refl w.heap.size w)
  have H : (spec_OD93Shifted.l0 k a0 (⟨#[]⟩ : ByteArray) 0) = some r := h
  clear h
  have H' := Aside0.mk H
  clear H
  go_enter Tryz.func19, Tryz.ntmps19
  go_wp2
  repeat (go_quiet (fail); try go_wp2)
  go_loopg [3, 4] k (fun kq v3 v4 w' => ∃ (x3_1 : ByteArray) (x4_1 : Int), v3 = .string x3_1 ∧ v4 = .int .i64 x4_1 ∧ Aside0 (spec_OD93Shifted.l0 kq a0 x3_1 x4_1 = some r) ∧ Aside0 (kq ≤ k) ∧ Aside0 (Below w.heap.size w w'))
  case atStart => exact ⟨((⟨#[]⟩ : ByteArray)), (0), (by first | rfl | (simp; done) | (simp [*]; done)), (by first | rfl | (simp; done) | (simp [*]; done)), H', ⟨Nat.le_refl _⟩, ⟨by repeat (first | (with_reducible first | exact HB.out | apply below_alloc | apply pw_below_drewN | apply below_drew1) | exact HB.out)⟩⟩
  case round =>
    clear H'
    try clear c1
    obtain ⟨x3_1, x4_1, rfl, rfl, HA, HK1, HB⟩ := hrel
    cases gk with
    | zero => exact absurd HA.out (by simp [spec_OD93Shifted.l0])
    | succ k1 =>
      have H := HA.out
      clear HA
      simp only [spec_OD93Shifted.l0] at H
      by_cases c2 : x4_1 < (a0.size : Int)
      · rw [if_pos c2] at H
        have c2b0 : decide (x4_1 < (a0.size : Int)) = true := decide_eq_true c2
        clear c2
        by_cases c3 : 0 ≤ x4_1
        · rw [if_pos c3] at H
          have c3b0 : decide (0 ≤ x4_1) = true := decide_eq_true c3
          clear c3
          have HC5 := Aside0.mk H
          clear H
          have p4 : 0 ≤ (x4_1 : Int) := of_decide_eq_true (by first | (with_reducible assumption) | assumption)
          have q4 : x4_1 < (a0.size : Int) := of_decide_eq_true (by first | (with_reducible assumption) | assumption)
          have hx4 := bt_at a0 x4_1
          replace p4 := eq_true p4
          replace q4 := eq_true q4
          go_upto_region 6 with (fail)
          repeat (go_quiet (fail); go_upto_region 6 with (fail))
          go_cut [30] (fun v30 wc => ∃ (kq : Nat) (x30_4 : Bool), v30 = .bool x30_4 ∧ Aside0 (spec_OD93Shifted.j1 kq a0 x3_1 x4_1 x30_4 = some r) ∧ Aside0 (kq ≤ k1) ∧ Aside0 (Below w.heap.size w wc))
          case first =>
            have H := HC5.out
            clear HC5
            by_cases c6 : (bt a0 x4_1) = 36
            · rw [if_pos c6] at H
              have c6b0 : ((bt a0 x4_1) == 36) = true := beq_iff_eq.mpr c6
              have c6b1 : ((bt a0 x4_1) != 36) = false := bne_eq_false_iff_eq.mpr c6
              clear c6
              (first | rw [c6b0] | (simp only [i64_w, i32_w]; rw [c6b0]) | skip)
              have H' := Aside0.mk H
              clear H
              go_wp2
              repeat (go_quiet (fail); try go_wp2)
              go_meet
              case rel => exact ⟨_, (true), (by first | rfl | (simp; done) | (simp [*]; done)), H', ⟨by have := HK1.out; first | omega | exact Nat.le_refl _⟩, ⟨by repeat (first | (with_reducible first | exact HB.out | apply below_alloc | apply pw_below_drewN | apply below_drew1) | exact HB.out)⟩⟩
            · rw [if_neg c6] at H
              have c6b0 : ((bt a0 x4_1) == 36) = false := beq_eq_false_iff_ne.mpr c6
              have c6b1 : ((bt a0 x4_1) != 36) = true := bne_iff_ne.mpr c6
              (first | rw [c6b0] | (simp only [i64_w, i32_w]; rw [c6b0]) | skip)
              by_cases c7 : (bt a0 x4_1) = 37
              · rw [if_pos c7] at H
                have c7b0 : ((bt a0 x4_1) == 37) = true := beq_iff_eq.mpr c7
                have c7b1 : ((bt a0 x4_1) != 37) = false := bne_eq_false_iff_eq.mpr c7
                clear c7
                have H' := Aside0.mk H
                clear H
                go_wp2
                repeat (go_quiet (fail); try go_wp2)
                go_meet
                case rel => exact ⟨_, (true), (by first | rfl | (simp; done) | (simp [*]; done)), H', ⟨by have := HK1.out; first | omega | exact Nat.le_refl _⟩, ⟨by repeat (first | (with_reducible first | exact HB.out | apply below_alloc | apply pw_below_drewN | apply below_drew1) | exact HB.out)⟩⟩
              · rw [if_neg c7] at H
                have c7b0 : ((bt a0 x4_1) == 37) = false := beq_eq_false_iff_ne.mpr c7
                have c7b1 : ((bt a0 x4_1) != 37) = true := bne_iff_ne.mpr c7
                by_cases c8 : (bt a0 x4_1) = 43
                · rw [if_pos c8] at H
                  have c8b0 : ((bt a0 x4_1) == 43) = true := beq_iff_eq.mpr c8
                  have c8b1 : ((bt a0 x4_1) != 43) = false := bne_eq_false_iff_eq.mpr c8
                  clear c8
                  have H' := Aside0.mk H
                  clear H
                  go_wp2
                  repeat (go_quiet (fail); try go_wp2)
                  go_meet
                  case rel => exact ⟨_, (true), (by first | rfl | (simp; done) | (simp [*]; done)), H', ⟨by have := HK1.out; first | omega | exact Nat.le_refl _⟩, ⟨by repeat (first | (with_reducible first | exact HB.out | apply below_alloc | apply pw_below_drewN | apply below_drew1) | exact HB.out)⟩⟩
                · rw [if_neg c8] at H
                  have c8b0 : ((bt a0 x4_1) == 43) = false := beq_eq_false_iff_ne.mpr c8
                  have c8b1 : ((bt a0 x4_1) != 43) = true := bne_iff_ne.mpr c8
                  have H' := Aside0.mk H
                  clear H
                  go_wp2
                  repeat (go_quiet (fail); try go_wp2)
                  go_meet
                  case rel => exact ⟨_, (((bt a0 x4_1) == 47)), (by first | rfl | (simp; done) | (simp [*]; done)), H', ⟨by have := HK1.out; first | omega | exact Nat.le_refl _⟩, ⟨by repeat (first | (with_reducible first | exact HB.out | apply below_alloc | apply pw_below_drewN | apply below_drew1) | exact HB.out)⟩⟩
          case rest =>
            clear HC5
            try clear c1
            try clear c2
            try clear c2b0
            try clear p2
            try clear c3
            try clear c3b0
            try clear p4
            try clear q4
            try clear hx4
            try clear c6
            try clear c6b0
            try clear c6b1
            try clear c7
            try clear c7b0
            try clear c7b1
            try clear c8
            try clear c8b0
            try clear c8b1
            try clear p4
            try clear q4
            obtain ⟨kq, x30_4, rfl, HA, HJ4, HB⟩ := hcut
            cases kq with
            | zero => exact absurd HA.out (by simp [spec_OD93Shifted.j1])
            | succ kj4 =>
              have H := HA.out
              clear HA
              simp only [spec_OD93Shifted.j1] at H
              by_cases c9 : x30_4 = true
              · subst c9
                have H1 : (if 0 ≤ x4_1 then (if x4_1 ≤ (wrap64 (x4_1 + 1)) then (if (wrap64 (x4_1 + 1)) ≤ (a0.size : Int) then (if x3_1.size + (a0.extract (x4_1 : Int).toNat ((wrap64 (x4_1 + 1)) : Int).toNat).size ≤ 9223372036854775807 then (spec_OD93Shifted.l0 kj4 a0 (x3_1 ++ (a0.extract (x4_1 : Int).toNat ((wrap64 (x4_1 + 1)) : Int).toNat)) (wrap64 (x4_1 + 1))) else (none)) else (none)) else (none)) else (none)) = some r := by rw [if_pos rfl] at H; exact H
                clear H
                have H := H1
                clear H1
                by_cases c10 : 0 ≤ x4_1
                · rw [if_pos c10] at H
                  have c10b0 := eq_true c10
                  have c10b1 : decide (0 ≤ x4_1) = true := decide_eq_true c10
                  clear c10
                  by_cases c11 : x4_1 ≤ (wrap64 (x4_1 + 1))
                  · rw [if_pos c11] at H
                    have c11b0 := eq_true c11
                    have c11b1 : decide (x4_1 ≤ (wrap64 (x4_1 + 1))) = true := decide_eq_true c11
                    by_cases c12 : (wrap64 (x4_1 + 1)) ≤ (a0.size : Int)
                    · rw [if_pos c12] at H
                      have c12b0 := eq_true c12
                      have c12b1 : decide ((wrap64 (x4_1 + 1)) ≤ (a0.size : Int)) = true := decide_eq_true c12
                      by_cases c13 : x3_1.size + (a0.extract (x4_1 : Int).toNat ((wrap64 (x4_1 + 1)) : Int).toNat).size ≤ 9223372036854775807
                      · rw [if_pos c13] at H
                        have c13b0 := eq_true c13
                        have c13b1 : decide (x3_1.size + (a0.extract (x4_1 : Int).toNat ((wrap64 (x4_1 + 1)) : Int).toNat).size ≤ 9223372036854775807) = true := decide_eq_true c13
                        try have c13b2 : (9223372036854775807 < x3_1.size + (a0.extract (x4_1 : Int).toNat ((wrap64 (x4_1 + 1)) : Int).toNat).size) = False := eq_false (Nat.not_lt.2 c13)
                        have H' := Aside0.mk H
                        clear H
                        go_wp2
                        repeat (go_quiet (fail); try go_wp2)
                        go_roundg kj4
                        case measure => have := HK1.out; have := HJ4.out; omega
                        case rel => exact ⟨(x3_1 ++ (a0.extract (x4_1 : Int).toNat ((wrap64 (x4_1 + 1)) : Int).toNat)), (wrap64 (x4_1 + 1)), (by first | rfl | (simp; done) | (simp [*]; done)), (by first | rfl | (simp; done) | (simp [*]; done)), H', ⟨by have := HK1.out; have := HJ4.out; omega⟩, ⟨by repeat (first | (with_reducible first | exact HB.out | apply below_alloc | apply pw_below_drewN | apply below_drew1) | exact HB.out)⟩⟩
                      · rw [if_neg c13] at H
                        exact absurd H (by simp)
                    · rw [if_neg c12] at H
                      exact absurd H (by simp)
                  · rw [if_neg c11] at H
                    exact absurd H (by simp)
                · rw [if_neg c10] at H
                  exact absurd H (by simp)
              · replace c9 := Bool.eq_false_iff.mpr c9
                subst c9
                have H1 : (if 0 ≤ x4_1 then (if x4_1 ≤ (wrap64 (x4_1 + 1)) then (if (wrap64 (x4_1 + 1)) ≤ (a0.size : Int) then ((spec_OD39Pairs.f kj4 (a0.extract (x4_1 : Int).toNat ((wrap64 (x4_1 + 1)) : Int).toNat)).bind fun t182 => (if (t182.size : Int) = 2 then (if 0 < (t182.size : Int) then ((spec_odAt.f kj4 (⟨#[36, 37, 47, 43]⟩ : ByteArray) (bt t182 0)).bind fun t183 => (if 0 ≤ t183 then (if t183 ≤ (wrap64 (t183 + 1)) then (if (wrap64 (t183 + 1)) ≤ 4 then (if 1 ≤ (t182.size : Int) then (if ((⟨#[97, 98, 99, 100]⟩ : ByteArray).extract (t183 : Int).toNat ((wrap64 (t183 + 1)) : Int).toNat).size + (t182.extract 1 t182.size).size ≤ 9223372036854775807 then (if x3_1.size + (((⟨#[97, 98, 99, 100]⟩ : ByteArray).extract (t183 : Int).toNat ((wrap64 (t183 + 1)) : Int).toNat) ++ (t182.extract 1 t182.size)).size ≤ 9223372036854775807 then (spec_OD93Shifted.l0 kj4 a0 (x3_1 ++ (((⟨#[97, 98, 99, 100]⟩ : ByteArray).extract (t183 : Int).toNat ((wrap64 (t183 + 1)) : Int).toNat) ++ (t182.extract 1 t182.size))) (wrap64 (x4_1 + 1))) else (none)) else (none)) else (none)) else (none)) else (none)) else (none))) else (none)) else (if x3_1.size + t182.size ≤ 9223372036854775807 then (spec_OD93Shifted.l0 kj4 a0 (x3_1 ++ t182) (wrap64 (x4_1 + 1))) else (none)))) else (none)) else (none)) else (none)) = some r := by rw [if_neg (show ¬ (false = true) by decide)] at H; exact H
                clear H
                have H := H1
                clear H1
                by_cases c14 : 0 ≤ x4_1
                · rw [if_pos c14] at H
                  have c14b0 := eq_true c14
                  have c14b1 : decide (0 ≤ x4_1) = true := decide_eq_true c14
                  clear c14
                  by_cases c15 : x4_1 ≤ (wrap64 (x4_1 + 1))
                  · rw [if_pos c15] at H
                    have c15b0 := eq_true c15
                    have c15b1 : decide (x4_1 ≤ (wrap64 (x4_1 + 1))) = true := decide_eq_true c15
                    by_cases c16 : (wrap64 (x4_1 + 1)) ≤ (a0.size : Int)
                    · rw [if_pos c16] at H
                      have c16b0 := eq_true c16
                      have c16b1 : decide ((wrap64 (x4_1 + 1)) ≤ (a0.size : Int)) = true := decide_eq_true c16
                      replace H := Option.bind_eq_some_iff.mp H
                      obtain ⟨t182, A170, H⟩ := H
                      replace H : (if (t182.size : Int) = 2 then (if 0 < (t182.size : Int) then ((spec_odAt.f kj4 (⟨#[36, 37, 47, 43]⟩ : ByteArray) (bt t182 0)).bind fun t183 => (if 0 ≤ t183 then (if t183 ≤ (wrap64 (t183 + 1)) then (if (wrap64 (t183 + 1)) ≤ 4 then (if 1 ≤ (t182.size : Int) then (if ((⟨#[97, 98, 99, 100]⟩ : ByteArray).extract (t183 : Int).toNat ((wrap64 (t183 + 1)) : Int).toNat).size + (t182.extract 1 t182.size).size ≤ 9223372036854775807 then (if x3_1.size + (((⟨#[97, 98, 99, 100]⟩ : ByteArray).extract (t183 : Int).toNat ((wrap64 (t183 + 1)) : Int).toNat) ++ (t182.extract 1 t182.size)).size ≤ 9223372036854775807 then (spec_OD93Shifted.l0 kj4 a0 (x3_1 ++ (((⟨#[97, 98, 99, 100]⟩ : ByteArray).extract (t183 : Int).toNat ((wrap64 (t183 + 1)) : Int).toNat) ++ (t182.extract 1 t182.size))) (wrap64 (x4_1 + 1))) else (none)) else (none)) else (none)) else (none)) else (none)) else (none))) else (none)) else (if x3_1.size + t182.size ≤ 9223372036854775807 then (spec_OD93Shifted.l0 kj4 a0 (x3_1 ++ t182) (wrap64 (x4_1 + 1))) else (none))) = some r := H
                      have A17 := Aside0.mk A170
                      clear A170
                      by_cases c18 : (t182.size : Int) = 2
                      · rw [if_pos c18] at H
                        have c18b0 : ((t182.size : Int) == 2) = true := beq_iff_eq.mpr c18
                        have c18b1 : ((t182.size : Int) != 2) = false := bne_eq_false_iff_eq.mpr c18
                        clear c18
                        by_cases c19 : 0 < (t182.size : Int)
                        · rw [if_pos c19] at H
                          have c19b0 : decide (0 < (t182.size : Int)) = true := decide_eq_true c19
                          have c19b1 : decide (0 < t182.size) = true := decide_eq_true (by omega)
                          clear c19
                          replace H := Option.bind_eq_some_iff.mp H
                          obtain ⟨t183, A210, H⟩ := H
                          replace H : (if 0 ≤ t183 then (if t183 ≤ (wrap64 (t183 + 1)) then (if (wrap64 (t183 + 1)) ≤ 4 then (if 1 ≤ (t182.size : Int) then (if ((⟨#[97, 98, 99, 100]⟩ : ByteArray).extract (t183 : Int).toNat ((wrap64 (t183 + 1)) : Int).toNat).size + (t182.extract 1 t182.size).size ≤ 9223372036854775807 then (if x3_1.size + (((⟨#[97, 98, 99, 100]⟩ : ByteArray).extract (t183 : Int).toNat ((wrap64 (t183 + 1)) : Int).toNat) ++ (t182.extract 1 t182.size)).size ≤ 9223372036854775807 then (spec_OD93Shifted.l0 kj4 a0 (x3_1 ++ (((⟨#[97, 98, 99, 100]⟩ : ByteArray).extract (t183 : Int).toNat ((wrap64 (t183 + 1)) : Int).toNat) ++ (t182.extract 1 t182.size))) (wrap64 (x4_1 + 1))) else (none)) else (none)) else (none)) else (none)) else (none)) else (none)) = some r := H
                          have A21 := Aside0.mk A210
                          clear A210
                          by_cases c22 : 0 ≤ t183
                          · rw [if_pos c22] at H
                            have c22b0 := eq_true c22
                            have c22b1 : decide (0 ≤ t183) = true := decide_eq_true c22
                            clear c22
                            by_cases c23 : t183 ≤ (wrap64 (t183 + 1))
                            · rw [if_pos c23] at H
                              have c23b0 := eq_true c23
                              have c23b1 : decide (t183 ≤ (wrap64 (t183 + 1))) = true := decide_eq_true c23
                              by_cases c24 : (wrap64 (t183 + 1)) ≤ 4
                              · rw [if_pos c24] at H
                                have c24b0 := eq_true c24
                                have c24b1 : decide ((wrap64 (t183 + 1)) ≤ 4) = true := decide_eq_true c24
                                by_cases c25 : 1 ≤ (t182.size : Int)
                                · rw [if_pos c25] at H
                                  have c25b0 := eq_true c25
                                  have c25b1 : decide (1 ≤ (t182.size : Int)) = true := decide_eq_true c25
                                  clear c25
                                  by_cases c26 : ((⟨#[97, 98, 99, 100]⟩ : ByteArray).extract (t183 : Int).toNat ((wrap64 (t183 + 1)) : Int).toNat).size + (t182.extract 1 t182.size).size ≤ 9223372036854775807
                                  · rw [if_pos c26] at H
                                    have c26b0 := eq_true c26
                                    have c26b1 : decide (((⟨#[97, 98, 99, 100]⟩ : ByteArray).extract (t183 : Int).toNat ((wrap64 (t183 + 1)) : Int).toNat).size + (t182.extract 1 t182.size).size ≤ 9223372036854775807) = true := decide_eq_true c26
                                    try have c26b2 : (9223372036854775807 < ((⟨#[97, 98, 99, 100]⟩ : ByteArray).extract (t183 : Int).toNat ((wrap64 (t183 + 1)) : Int).toNat).size + (t182.extract 1 t182.size).size) = False := eq_false (Nat.not_lt.2 c26)
                                    by_cases c27 : x3_1.size + (((⟨#[97, 98, 99, 100]⟩ : ByteArray).extract (t183 : Int).toNat ((wrap64 (t183 + 1)) : Int).toNat) ++ (t182.extract 1 t182.size)).size ≤ 9223372036854775807
                                    · rw [if_pos c27] at H
                                      have c27b0 := eq_true c27
                                      have c27b1 : decide (x3_1.size + (((⟨#[97, 98, 99, 100]⟩ : ByteArray).extract (t183 : Int).toNat ((wrap64 (t183 + 1)) : Int).toNat) ++ (t182.extract 1 t182.size)).size ≤ 9223372036854775807) = true := decide_eq_true c27
                                      try have c27b2 : (9223372036854775807 < x3_1.size + (((⟨#[97, 98, 99, 100]⟩ : ByteArray).extract (t183 : Int).toNat ((wrap64 (t183 + 1)) : Int).toNat) ++ (t182.extract 1 t182.size)).size) = False := eq_false (Nat.not_lt.2 c27)
                                      have H' := Aside0.mk H
                                      clear H
                                      go_wp2_with (first | (go_at_call 35; (with_reducible refine (spec_OD39Pairs.calls kj4 (a0.extract (x4_1 : Int).toNat ((wrap64 (x4_1 + 1)) : Int).toNat) t182 _ A17.out).mono ?_); rintro e w28 ⟨rfl, hb⟩; have n0_ := Aside0.mk (below_step (by repeat (first | (with_reducible first | exact HB.out | apply below_alloc | apply pw_below_drewN | apply below_drew1) | exact HB.out)) hb); clear HB; have HB := n0_; clear n0_; (try clear hb); (try clear hb2); (try clear hk); (try clear hi); have p20 : 0 ≤ (0 : Int) := (by omega); have q20 : 0 < t182.size := (by have : (0 : Int) < (t182.size : Int) := of_decide_eq_true (by first | (with_reducible assumption) | assumption); omega); have hx20 : ∀ h : 0 < t182.size, ((t182[0]'h).toNat : Int) = bt t182 0 := bt_at t182 0; clear p20; have qi20 : (0 < (t182.size : Int)) = True := eq_true (of_decide_eq_true (by first | (with_reducible assumption) | assumption)); replace q20 := eq_true q20) | (go_at_call 32; (with_reducible refine (spec_odAt.calls kj4 (⟨#[36, 37, 47, 43]⟩ : ByteArray) (bt t182 0) t183 _ A21.out).mono ?_); rintro e w' ⟨rfl, ⟨nd, rfl⟩⟩; (try first | exact ⟨rfl, _, World.drewN_drewN _ _ _⟩ | exact ⟨rfl, _, Eq.trans (World.drewN_drewN _ _ _) (congrArg (World.drewN _) (Nat.add_assoc _ _ _))⟩)))
                                      repeat (go_quiet (first | (go_at_call 35; (with_reducible refine (spec_OD39Pairs.calls kj4 (a0.extract (x4_1 : Int).toNat ((wrap64 (x4_1 + 1)) : Int).toNat) t182 _ A17.out).mono ?_); rintro e w28 ⟨rfl, hb⟩; have n0_ := Aside0.mk (below_step (by repeat (first | (with_reducible first | exact HB.out | apply below_alloc | apply pw_below_drewN | apply below_drew1) | exact HB.out)) hb); clear HB; have HB := n0_; clear n0_; (try clear hb); (try clear hb2); (try clear hk); (try clear hi); have p20 : 0 ≤ (0 : Int) := (by omega); have q20 : 0 < t182.size := (by have : (0 : Int) < (t182.size : Int) := of_decide_eq_true (by first | (with_reducible assumption) | assumption); omega); have hx20 : ∀ h : 0 < t182.size, ((t182[0]'h).toNat : Int) = bt t182 0 := bt_at t182 0; clear p20; have qi20 : (0 < (t182.size : Int)) = True := eq_true (of_decide_eq_true (by first | (with_reducible assumption) | assumption)); replace q20 := eq_true q20) | (go_at_call 32; (with_reducible refine (spec_odAt.calls kj4 (⟨#[36, 37, 47, 43]⟩ : ByteArray) (bt t182 0) t183 _ A21.out).mono ?_); rintro e w' ⟨rfl, ⟨nd, rfl⟩⟩; (try first | exact ⟨rfl, _, World.drewN_drewN _ _ _⟩ | exact ⟨rfl, _, Eq.trans (World.drewN_drewN _ _ _) (congrArg (World.drewN _) (Nat.add_assoc _ _ _))⟩))); try go_wp2_with (first | (go_at_call 35; (with_reducible refine (spec_OD39Pairs.calls kj4 (a0.extract (x4_1 : Int).toNat ((wrap64 (x4_1 + 1)) : Int).toNat) t182 _ A17.out).mono ?_); rintro e w28 ⟨rfl, hb⟩; have n0_ := Aside0.mk (below_step (by repeat (first | (with_reducible first | exact HB.out | apply below_alloc | apply pw_below_drewN | apply below_drew1) | exact HB.out)) hb); clear HB; have HB := n0_; clear n0_; (try clear hb); (try clear hb2); (try clear hk); (try clear hi); have p20 : 0 ≤ (0 : Int) := (by omega); have q20 : 0 < t182.size := (by have : (0 : Int) < (t182.size : Int) := of_decide_eq_true (by first | (with_reducible assumption) | assumption); omega); have hx20 : ∀ h : 0 < t182.size, ((t182[0]'h).toNat : Int) = bt t182 0 := bt_at t182 0; clear p20; have qi20 : (0 < (t182.size : Int)) = True := eq_true (of_decide_eq_true (by first | (with_reducible assumption) | assumption)); replace q20 := eq_true q20) | (go_at_call 32; (with_reducible refine (spec_odAt.calls kj4 (⟨#[36, 37, 47, 43]⟩ : ByteArray) (bt t182 0) t183 _ A21.out).mono ?_); rintro e w' ⟨rfl, ⟨nd, rfl⟩⟩; (try first | exact ⟨rfl, _, World.drewN_drewN _ _ _⟩ | exact ⟨rfl, _, Eq.trans (World.drewN_drewN _ _ _) (congrArg (World.drewN _) (Nat.add_assoc _ _ _))⟩))))
                                      go_roundg kj4
                                      case measure => have := HK1.out; have := HJ4.out; omega
                                      case rel => exact ⟨(x3_1 ++ (((⟨#[97, 98, 99, 100]⟩ : ByteArray).extract (t183 : Int).toNat ((wrap64 (t183 + 1)) : Int).toNat) ++ (t182.extract 1 t182.size))), (wrap64 (x4_1 + 1)), (by first | rfl | (simp; done) | (simp [*]; done)), (by first | rfl | (simp; done) | (simp [*]; done)), H', ⟨by have := HK1.out; have := HJ4.out; omega⟩, ⟨by repeat (first | (with_reducible first | exact HB.out | apply below_alloc | apply pw_below_drewN | apply below_drew1) | exact HB.out)⟩⟩
                                    · rw [if_neg c27] at H
                                      exact absurd H (by simp)
                                  · rw [if_neg c26] at H
                                    exact absurd H (by simp)
                                · rw [if_neg c25] at H
                                  exact absurd H (by simp)
                              · rw [if_neg c24] at H
                                exact absurd H (by simp)
                            · rw [if_neg c23] at H
                              exact absurd H (by simp)
                          · rw [if_neg c22] at H
                            exact absurd H (by simp)
                        · rw [if_neg c19] at H
                          exact absurd H (by simp)
                      · rw [if_neg c18] at H
                        have c18b0 : ((t182.size : Int) == 2) = false := beq_eq_false_iff_ne.mpr c18
                        have c18b1 : ((t182.size : Int) != 2) = true := bne_iff_ne.mpr c18
                        by_cases c29 : x3_1.size + t182.size ≤ 9223372036854775807
                        · rw [if_pos c29] at H
                          have c29b0 := eq_true c29
                          have c29b1 : decide (x3_1.size + t182.size ≤ 9223372036854775807) = true := decide_eq_true c29
                          try have c29b2 : (9223372036854775807 < x3_1.size + t182.size) = False := eq_false (Nat.not_lt.2 c29)
                          have H' := Aside0.mk H
                          clear H
                          go_wp2_with (first | (go_at_call 35; (with_reducible refine (spec_OD39Pairs.calls kj4 (a0.extract (x4_1 : Int).toNat ((wrap64 (x4_1 + 1)) : Int).toNat) t182 _ A17.out).mono ?_); rintro e w30 ⟨rfl, hb⟩; have n0_ := Aside0.mk (below_step (by repeat (first | (with_reducible first | exact HB.out | apply below_alloc | apply pw_below_drewN | apply below_drew1) | exact HB.out)) hb); clear HB; have HB := n0_; clear n0_; (try clear hb); (try clear hb2); (try clear hk); (try clear hi)))
                          repeat (go_quiet (first | (go_at_call 35; (with_reducible refine (spec_OD39Pairs.calls kj4 (a0.extract (x4_1 : Int).toNat ((wrap64 (x4_1 + 1)) : Int).toNat) t182 _ A17.out).mono ?_); rintro e w30 ⟨rfl, hb⟩; have n0_ := Aside0.mk (below_step (by repeat (first | (with_reducible first | exact HB.out | apply below_alloc | apply pw_below_drewN | apply below_drew1) | exact HB.out)) hb); clear HB; have HB := n0_; clear n0_; (try clear hb); (try clear hb2); (try clear hk); (try clear hi))); try go_wp2_with (first | (go_at_call 35; (with_reducible refine (spec_OD39Pairs.calls kj4 (a0.extract (x4_1 : Int).toNat ((wrap64 (x4_1 + 1)) : Int).toNat) t182 _ A17.out).mono ?_); rintro e w30 ⟨rfl, hb⟩; have n0_ := Aside0.mk (below_step (by repeat (first | (with_reducible first | exact HB.out | apply below_alloc | apply pw_below_drewN | apply below_drew1) | exact HB.out)) hb); clear HB; have HB := n0_; clear n0_; (try clear hb); (try clear hb2); (try clear hk); (try clear hi))))
                          go_roundg kj4
                          case measure => have := HK1.out; have := HJ4.out; omega
                          case rel => exact ⟨(x3_1 ++ t182), (wrap64 (x4_1 + 1)), (by first | rfl | (simp; done) | (simp [*]; done)), (by first | rfl | (simp; done) | (simp [*]; done)), H', ⟨by have := HK1.out; have := HJ4.out; omega⟩, ⟨by repeat (first | (with_reducible first | exact HB.out | apply below_alloc | apply pw_below_drewN | apply below_drew1) | exact HB.out)⟩⟩
                        · rw [if_neg c29] at H
                          exact absurd H (by simp)
                    · rw [if_neg c16] at H
                      exact absurd H (by simp)
                  · rw [if_neg c15] at H
                    exact absurd H (by simp)
                · rw [if_neg c14] at H
                  exact absurd H (by simp)
        · rw [if_neg c3] at H
          exact absurd H (by simp)
      · rw [if_neg c2] at H
        have c2b0 : decide (x4_1 < (a0.size : Int)) = false := decide_eq_false c2
        clear c2
        obtain rfl := Option.some.inj H
        go_wp2
        repeat (go_quiet (fail); try go_wp2)
        go_ret
        exact ⟨by first | rfl | (simp [errW_none, errW_some] <;> rfl) | (simp [*, errW_none, errW_some] <;> rfl), by repeat (first | (with_reducible first | exact HB.out | apply below_alloc | apply pw_below_drewN | apply below_drew1) | exact HB.out)⟩

-- NOT PRINTED: function 3 (laws_FnODWrites93)
end Go.Proofs.YthkddnmomjcdaaaGreat.F
