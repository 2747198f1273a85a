import Derived.Test.YthkddnmomjcdaaaGreatF0
import Derived.Test.YthkddnmomjcdaaaGreatF32
import Derived.Test.YthkddnmomjcdaaaGreatF36
import Derived.Test.YthkddnmomjcdaaaGreatF37
import Derived.Test.YthkddnmomjcdaaaGreatF38
namespace Go.Proofs.YthkddnmomjcdaaaGreat.F
open Go.RowKit Go.Proofs.YthkddnmomjcdaaaGreatW.PrintWords Go.Proofs.YthkddnmomjcdaaaGreatW.PrintLast Go.Proofs.YthkddnmomjcdaaaGreatW.PrintMore
attribute [local go_sem] max2_int min2_int max_two min_two max_three min_three max_four min_four   -- for this text's walks alone
set_option linter.unusedVariables false
set_option linter.unusedSimpArgs false

/-! ### spec_ODBar: function 21 -/
def spec_ODBar.l0 : Nat → ByteArray → List Int → Int → Option (List Bool)
  | 0, _, _, _ => none
  | k + 1, x0, x3, x4 => if x4 < (x0.size : Int) then (if x4 > 0 then (if x3.length < 17592186044416 then ((some (x3 ++ [1] : List Int)).bind fun y210 => (if 0 ≤ x4 then ((spec_odAt.f k (⟨#[48, 49, 50, 51, 52, 53, 54, 55, 56, 57, 45, 36, 58, 47, 46, 43, 65, 66, 67, 68]⟩ : ByteArray) (bt x0 x4)).bind fun t213 => ((spec_odBarBits.f t213).bind fun t214 => ((spec_odElements.f k t214 7 2).bind fun t215 => (if y210.length + t215.length < 17592186044416 then (spec_ODBar.l0 k x0 (y210 ++ t215) (wrap64 (x4 + 1))) else (none))))) else (none))) else (none)) else (if 0 ≤ x4 then ((spec_odAt.f k (⟨#[48, 49, 50, 51, 52, 53, 54, 55, 56, 57, 45, 36, 58, 47, 46, 43, 65, 66, 67, 68]⟩ : ByteArray) (bt x0 x4)).bind fun t221 => ((spec_odBarBits.f t221).bind fun t222 => ((spec_odElements.f k t222 7 2).bind fun t223 => (if x3.length + t223.length < 17592186044416 then (spec_ODBar.l0 k x0 (x3 ++ t223) (wrap64 (x4 + 1))) else (none))))) else (none))) else ((spec_ODBars.f k x3).bind fun t207 => (some t207))
def spec_ODBar.f (k : Nat) (a0 : ByteArray) : Option (List Bool) := spec_ODBar.l0 k a0 ([] : List Int) 0
theorem spec_ODBar.mono_l : ∀ k, (∀ y0 y1 y2, LeO (spec_ODBar.l0 k y0 y1 y2) (spec_ODBar.l0 (k + 1) y0 y1 y2))
  | 0 => fun _ _ _ r h => by simp [spec_ODBar.l0] at h
  | k + 1 => by
    have ih0 := spec_ODBar.mono_l k
    · intro y0 y1 y2
      unfold spec_ODBar.l0
      repeat' first
      | (with_reducible exact ih0 _ _ _)
      | (with_reducible exact spec_ODBars.mono _ _)
      | (with_reducible exact spec_odAt.mono _ _ _)
      | (with_reducible exact spec_odElements.mono _ _ _ _)
      | (with_reducible exact LeO.refl _)
      | (with_reducible exact LeO.none _)
      | (with_reducible refine LeO.ite ?_ ?_)
      | (with_reducible refine LeO.bind ?_ (fun _ => ?_))
      | exact ih0 _ _ _
      | exact spec_ODBars.mono _ _
      | exact spec_odAt.mono _ _ _
      | exact spec_odElements.mono _ _ _ _
      | exact LeO.none _
      | refine LeO.ite ?_ ?_
      | refine LeO.bind ?_ (fun _ => ?_)
theorem spec_ODBar.mono : ∀ a0 k, LeO (spec_ODBar.f k a0) (spec_ODBar.f (k + 1) a0) := by
  intro a0 k
  have ih0 := spec_ODBar.mono_l k
  unfold spec_ODBar.f
  repeat' first
      | (with_reducible exact ih0 _ _ _)
      | (with_reducible exact spec_ODBars.mono _ _)
      | (with_reducible exact spec_odAt.mono _ _ _)
      | (with_reducible exact spec_odElements.mono _ _ _ _)
      | (with_reducible exact LeO.refl _)
      | (with_reducible exact LeO.none _)
      | (with_reducible refine LeO.ite ?_ ?_)
      | (with_reducible refine LeO.bind ?_ (fun _ => ?_))
      | exact ih0 _ _ _
      | exact spec_ODBars.mono _ _
      | exact spec_odAt.mono _ _ _
      | exact spec_odElements.mono _ _ _ _
      | exact LeO.none _
      | refine LeO.ite ?_ ?_
      | refine LeO.bind ?_ (fun _ => ?_)
set_option maxHeartbeats 8000000 in
set_option maxRecDepth 100000 in
theorem spec_ODBar.calls (k : Nat) (a0 : ByteArray) (r : List Bool) (w : World) (h : spec_ODBar.f k a0 = some r) :
    Calls Tryz.prog 21 #[.string a0] w fun e w' => ∃ v0_ : Value, e = .returned (v0_) ∧ Kd.R Kd.bool 4 w' w.heap.size (fun _ => True) v0_ r ∧ Below w.heap.size w w' := by
  have HB := Aside0.mk (Below.refl w.heap.size w)
  have H : (spec_ODBar.l0 k a0 ([] : List Int) 0) = some r := h
  clear h
  have H' := Aside0.mk H
  clear H
  go_enter Tryz.func21, Tryz.ntmps21
  go_wp2
  go_loopg [3, 4] k (fun kq v3 v4 w' => ∃ (x3_1 : List Int) (x4_1 : Int), v4 = .int .i64 x4_1 ∧ Aside0 (spec_ODBar.l0 kq a0 x3_1 x4_1 = some r) ∧ Aside0 (kq ≤ k) ∧ Aside0 (Kd.R (Kd.int .i64) 3 w' w.heap.size (fun _ => True) v3 x3_1) ∧ Aside0 (Below w.heap.size w w'))
  case atStart => exact ⟨(([] : List Int)), (0), (by first | rfl | (simp; done) | (simp [*]; done)), H', ⟨Nat.le_refl _⟩, ⟨by first | exact Kd.R_nil _ _ _ _ _ | exact Kd.N_nil _ _ _ _ _ | exact Kd.V_nil _ _ _ _ _ | exact Kd.Q_nil _ _ _ _ _ | exact Kd.S_nil _ _ _ _ _⟩, ⟨by repeat (first | (with_reducible first | exact HB.out | apply below_alloc | apply pw_below_drewN | apply below_drew1) | exact HB.out)⟩⟩
  case round =>
    clear H'
    obtain ⟨x3_1, x4_1, rfl, HA, HK1, HO_3, HB⟩ := hrel
    cases gk with
    | zero => exact absurd HA.out (by simp [spec_ODBar.l0])
    | succ k1 =>
      have H := HA.out
      clear HA
      simp only [spec_ODBar.l0] at H
      by_cases c2 : x4_1 < (a0.size : Int)
      · rw [if_pos c2] at H
        have c2b0 : decide (x4_1 < (a0.size : Int)) = true := decide_eq_true c2
        clear c2
        by_cases c3 : x4_1 > 0
        · rw [if_pos c3] at H
          have c3b0 : decide (0 < x4_1) = true := decide_eq_true c3
          clear c3
          by_cases c4 : x3_1.length < 17592186044416
          · rw [if_pos c4] at H
            have LMc4 := Aside0.mk c4
            clear c4
            obtain ⟨y210, hy210⟩ : ∃ y_ : List Int, y_ = (x3_1 ++ [1]) := ⟨_, rfl⟩
            replace H : (if 0 ≤ x4_1 then ((spec_odAt.f k1 (⟨#[48, 49, 50, 51, 52, 53, 54, 55, 56, 57, 45, 36, 58, 47, 46, 43, 65, 66, 67, 68]⟩ : ByteArray) (bt a0 x4_1)).bind fun t213 => ((spec_odBarBits.f t213).bind fun t214 => ((spec_odElements.f k1 t214 7 2).bind fun t215 => (if y210.length + t215.length < 17592186044416 then (spec_ODBar.l0 k1 a0 (y210 ++ t215) (wrap64 (x4_1 + 1))) else (none))))) else (none)) = some r := by first | (rw [hy210]; with_reducible exact H) | (have H2_ := (Option.bind_some _ _).symm.trans H; rw [hy210]; with_reducible exact H2_) | (have H2_ := (Option.bind_some _ _).symm.trans H; with_reducible exact H2_) | with_reducible exact H | (rw [hy210]; exact H) | exact H
            have Ny210 := Aside0.mk hy210
            clear hy210
            by_cases c5 : 0 ≤ x4_1
            · rw [if_pos c5] at H
              have c5b0 : decide (0 ≤ x4_1) = true := decide_eq_true c5
              clear c5
              replace H := Option.bind_eq_some_iff.mp H
              obtain ⟨t213, A70, H⟩ := H
              replace H : ((spec_odBarBits.f t213).bind fun t214 => ((spec_odElements.f k1 t214 7 2).bind fun t215 => (if y210.length + t215.length < 17592186044416 then (spec_ODBar.l0 k1 a0 (y210 ++ t215) (wrap64 (x4_1 + 1))) else (none)))) = some r := H
              have A7 := Aside0.mk A70
              clear A70
              replace H := Option.bind_eq_some_iff.mp H
              obtain ⟨t214, A80, H⟩ := H
              replace H : ((spec_odElements.f k1 t214 7 2).bind fun t215 => (if y210.length + t215.length < 17592186044416 then (spec_ODBar.l0 k1 a0 (y210 ++ t215) (wrap64 (x4_1 + 1))) else (none))) = some r := H
              have A8 := Aside0.mk A80
              clear A80
              replace H := Option.bind_eq_some_iff.mp H
              obtain ⟨t215, A90, H⟩ := H
              replace H : (if y210.length + t215.length < 17592186044416 then (spec_ODBar.l0 k1 a0 (y210 ++ t215) (wrap64 (x4_1 + 1))) else (none)) = some r := H
              have A9 := Aside0.mk A90
              clear A90
              by_cases c10 : y210.length + t215.length < 17592186044416
              · rw [if_pos c10] at H
                have LMc10 := Aside0.mk c10
                clear c10
                obtain ⟨y218, hy218⟩ : ∃ y_ : List Int, y_ = (y210 ++ t215) := ⟨_, rfl⟩
                replace H : (spec_ODBar.l0 k1 a0 y218 (wrap64 (x4_1 + 1))) = some r := by first | (rw [hy218]; with_reducible exact H) | (have H2_ := (Option.bind_some _ _).symm.trans H; rw [hy218]; with_reducible exact H2_) | (have H2_ := (Option.bind_some _ _).symm.trans H; with_reducible exact H2_) | with_reducible exact H | (rw [hy218]; exact H) | exact H
                have Ny218 := Aside0.mk hy218
                clear hy218
                have H' := Aside0.mk H
                clear H
                go_wp2_with (first | ((with_reducible refine gate_builtin (b := .append) (xs := #[.tmp 13, .tmp 14]) rfl ?_); at_builtin; refine Kd.R_append (Kd.int .i64) (w0 := w) w.heap.size rfl (.tmp 13) (.tmp 14) 40 3 (.int .i64 0) 8 rfl Tryz.underlying40 info3 rfl (by decide) (by omega) u3 x3_1 1 [.int .i64 1] (fun _ => True) (fun _ => False) rfl rfl ?aP (fun _ hk => hk.elim) ?aF ?aO ?aB ?aS ?aL ?_; (case aP => exact rfl); (case aB => exact (by repeat (first | (with_reducible first | exact HB.out | apply below_alloc | apply pw_below_drewN | apply below_drew1) | exact HB.out))); (case aF => exact (fun _ _ => trivial)); (case aO => exact (by (with_reducible repeat (first | apply Kd.R_alloc | apply Kd.R_drewN | apply Kd.R_drew)); exact HO_3.out)); (case aS => exact (below_size (by repeat (first | (with_reducible first | exact HB.out | apply below_alloc | apply pw_below_drewN | apply below_drew1) | exact HB.out)))); (case aL => have := LMc4.out; omega); intro v211 w11 ho hb hg hat; rw [← Ny210.out] at ho; have n0_ := Aside0.mk (hb); have n1_ := Aside0.mk (ho); clear HB; clear HO_3; have HB := n0_; have HO212 := n1_; clear n0_ n1_; clear ho hb hg hat; have p6 : 0 ≤ (x4_1 : Int) := of_decide_eq_true (by first | (with_reducible assumption) | assumption); have q6 : x4_1 < (a0.size : Int) := of_decide_eq_true (by first | (with_reducible assumption) | assumption); have hx6 := bt_at a0 x4_1; replace p6 := eq_true p6; replace q6 := eq_true q6) | ((with_reducible refine gate_callee (f := 32) rfl ?_); refine goesL_ (some 20) rfl rfl Tryz.func32 (by kernel_rfl) rfl #[.string (⟨#[48, 49, 50, 51, 52, 53, 54, 55, 56, 57, 45, 36, 58, 47, 46, 43, 65, 66, 67, 68]⟩ : ByteArray), .int .u8 (bt a0 x4_1)] rfl (by (try simp only [List.map_toArray, List.map_cons, List.map_nil]); first | done | rfl | (simp only [List.length_drop, List.length_take]; rfl)) ?_; (with_reducible refine (spec_odAt.calls k1 (⟨#[48, 49, 50, 51, 52, 53, 54, 55, 56, 57, 45, 36, 58, 47, 46, 43, 65, 66, 67, 68]⟩ : ByteArray) (bt a0 x4_1) t213 _ A7.out).mono ?_); rintro e w' ⟨rfl, ⟨nd, rfl⟩⟩; refine ⟨_, rfl, ?_⟩) | ((with_reducible refine gate_callee (f := 37) rfl ?_); refine goesL_ (some 21) rfl rfl Tryz.func37 (by kernel_rfl) rfl #[.int .i64 t213] rfl (by (try simp only [List.map_toArray, List.map_cons, List.map_nil]); first | done | rfl | (simp only [List.length_drop, List.length_take]; rfl)) ?_; (with_reducible refine (spec_odBarBits.calls t213 t214 _ A8.out).mono ?_); rintro e w12 ⟨rfl, hb⟩; refine ⟨_, rfl, ?_⟩; have n0_ := Aside0.mk (Kd.R_below (by (with_reducible repeat (first | apply Kd.R_alloc | apply Kd.R_drewN | apply Kd.R_drew)); exact HO212.out) hb); have n1_ := Aside0.mk (below_step (by repeat (first | (with_reducible first | exact HB.out | apply below_alloc | apply pw_below_drewN | apply below_drew1) | exact HB.out)) hb); clear HO212; clear HB; have HO212 := n0_; have HB := n1_; clear n0_ n1_; (try clear hb); (try clear hb2); (try clear hk); (try clear hi)) | ((with_reducible refine gate_callee (f := 36) rfl ?_); refine goesL_ (some 22) rfl rfl Tryz.func36 (by kernel_rfl) rfl #[.int .i64 t214, .int .i64 7, .int .i64 2] rfl (by (try simp only [List.map_toArray, List.map_cons, List.map_nil]); first | done | rfl | (simp only [List.length_drop, List.length_take]; rfl)) ?_; (with_reducible refine (spec_odElements.calls k1 t214 7 2 t215 _ A9.out).mono ?_); rintro e w13 ⟨v216, rfl, ho0, hb⟩; refine ⟨_, rfl, ?_⟩; have n0_ := Aside0.mk (Kd.R_elder' (by (with_reducible repeat (first | apply Kd.R_alloc | apply Kd.R_drewN | apply Kd.R_drew)); exact HO212.out) (Kd.R_base ho0) hb); have n1_ := Aside0.mk (Kd.R_lower (Kd.R_new' ho0 (Kd.R_lt (by (with_reducible repeat (first | apply Kd.R_alloc | apply Kd.R_drewN | apply Kd.R_drew)); exact HO212.out))) (below_size (by repeat (first | (with_reducible first | exact HB.out | apply below_alloc | apply pw_below_drewN | apply below_drew1) | exact HB.out)))); have n2_ := Aside0.mk (below_step (by repeat (first | (with_reducible first | exact HB.out | apply below_alloc | apply pw_below_drewN | apply below_drew1) | exact HB.out)) hb); clear HO212; clear HB; have HO212 := n0_; have HO217 := n1_; have HB := n2_; clear n0_ n1_ n2_; (try clear hb); (try clear hb2); (try clear hk); (try clear hi); (try clear ho0); obtain ⟨Ao15, co15, eo15⟩ := Kd.R_slice HO217.out; subst eo15) | ((with_reducible refine gate_builtin (b := .append) (xs := #[.tmp 16, .tmp 22]) rfl ?_); at_builtin; refine Kd.R_append_rows (Kd.int .i64) (w0 := w) w.heap.size rfl (.tmp 16) (.tmp 22) 40 3 (.int .i64 0) 8 rfl Tryz.underlying40 info3 rfl (by decide) (by omega) v211 y210 t215 _ _ _ (fun k_ => some k_ ≠ (.slice Ao15 t215.length co15 : Value).ownBlock) (fun _ => False) rfl rfl ?aO ?aR (fun _ _ h => h) (fun _ h => h.elim) ?aF ?aB ?aS ?aL ?_; (case aR => repeat (first | exact (Kd.R_reads' HO217.out).2.2 | (with_reducible refine Kd.C_alloc ?_ _) | (with_reducible refine Kd.C_drewN ?_ _) | (with_reducible refine Kd.C_drew ?_))); (case aB => exact (by repeat (first | (with_reducible first | exact HB.out | apply below_alloc | apply pw_below_drewN | apply below_drew1) | exact HB.out))); (case aF => exact (fun k_ hk => Kd.fresh' (Kd.R_lt (by (with_reducible repeat (first | apply Kd.R_alloc | apply Kd.R_drewN | apply Kd.R_drew)); exact HO217.out)) k_ hk)); (case aO => exact (by (with_reducible repeat (first | apply Kd.R_alloc | apply Kd.R_drewN | apply Kd.R_drew)); exact Kd.R_mono HO212.out (fun _ hk => hk.2))); (case aS => exact (below_size (by repeat (first | (with_reducible first | exact HB.out | apply below_alloc | apply pw_below_drewN | apply below_drew1) | exact HB.out)))); (case aL => have := LMc10.out; omega); intro v219 w14 ho hb hg hat; rw [← Ny218.out] at ho; have n0_ := Aside0.mk (Kd.R_after (ok := (fun _ => True)) (by (with_reducible repeat (first | apply Kd.R_alloc | apply Kd.R_drewN | apply Kd.R_drew)); exact HO217.out) hg hat); have n1_ := Aside0.mk (hb); have n2_ := Aside0.mk (ho); clear HO217; clear HB; clear HO212; have HO217 := n0_; have HB := n1_; have HO220 := n2_; clear n0_ n1_ n2_; clear ho hb hg hat))
                go_roundg k1
                case measure => have := HK1.out; omega
                case rel => exact ⟨(y218), (wrap64 (x4_1 + 1)), (by first | rfl | (simp; done) | (simp [*]; done)), H', ⟨by have := HK1.out; omega⟩, ⟨by (with_reducible repeat (first | apply Kd.R_alloc | apply Kd.R_drewN | apply Kd.R_drew)); exact Kd.R_mono HO220.out (fun _ hk => trivial)⟩, ⟨by repeat (first | (with_reducible first | exact HB.out | apply below_alloc | apply pw_below_drewN | apply below_drew1) | exact HB.out)⟩⟩
              · rw [if_neg c10] at H
                exact absurd H (by simp)
            · rw [if_neg c5] at H
              exact absurd H (by simp)
          · rw [if_neg c4] at H
            exact absurd H (by simp)
        · rw [if_neg c3] at H
          have c3b0 : decide (0 < x4_1) = false := decide_eq_false c3
          clear c3
          by_cases c16 : 0 ≤ x4_1
          · rw [if_pos c16] at H
            have c16b0 : decide (0 ≤ x4_1) = true := decide_eq_true c16
            clear c16
            replace H := Option.bind_eq_some_iff.mp H
            obtain ⟨t221, A180, H⟩ := H
            replace H : ((spec_odBarBits.f t221).bind fun t222 => ((spec_odElements.f k1 t222 7 2).bind fun t223 => (if x3_1.length + t223.length < 17592186044416 then (spec_ODBar.l0 k1 a0 (x3_1 ++ t223) (wrap64 (x4_1 + 1))) else (none)))) = some r := H
            have A18 := Aside0.mk A180
            clear A180
            replace H := Option.bind_eq_some_iff.mp H
            obtain ⟨t222, A190, H⟩ := H
            replace H : ((spec_odElements.f k1 t222 7 2).bind fun t223 => (if x3_1.length + t223.length < 17592186044416 then (spec_ODBar.l0 k1 a0 (x3_1 ++ t223) (wrap64 (x4_1 + 1))) else (none))) = some r := H
            have A19 := Aside0.mk A190
            clear A190
            replace H := Option.bind_eq_some_iff.mp H
            obtain ⟨t223, A200, H⟩ := H
            replace H : (if x3_1.length + t223.length < 17592186044416 then (spec_ODBar.l0 k1 a0 (x3_1 ++ t223) (wrap64 (x4_1 + 1))) else (none)) = some r := H
            have A20 := Aside0.mk A200
            clear A200
            by_cases c21 : x3_1.length + t223.length < 17592186044416
            · rw [if_pos c21] at H
              have LMc21 := Aside0.mk c21
              clear c21
              obtain ⟨y226, hy226⟩ : ∃ y_ : List Int, y_ = (x3_1 ++ t223) := ⟨_, rfl⟩
              replace H : (spec_ODBar.l0 k1 a0 y226 (wrap64 (x4_1 + 1))) = some r := by first | (rw [hy226]; with_reducible exact H) | (have H2_ := (Option.bind_some _ _).symm.trans H; rw [hy226]; with_reducible exact H2_) | (have H2_ := (Option.bind_some _ _).symm.trans H; with_reducible exact H2_) | with_reducible exact H | (rw [hy226]; exact H) | exact H
              have Ny226 := Aside0.mk hy226
              clear hy226
              have H' := Aside0.mk H
              clear H
              have p17 : 0 ≤ (x4_1 : Int) := of_decide_eq_true (by first | (with_reducible assumption) | assumption)
              have q17 : x4_1 < (a0.size : Int) := of_decide_eq_true (by first | (with_reducible assumption) | assumption)
              have hx17 := bt_at a0 x4_1
              replace p17 := eq_true p17
              replace q17 := eq_true q17
              go_wp2_with (first | ((with_reducible refine gate_callee (f := 32) rfl ?_); refine goesL_ (some 20) rfl rfl Tryz.func32 (by kernel_rfl) rfl #[.string (⟨#[48, 49, 50, 51, 52, 53, 54, 55, 56, 57, 45, 36, 58, 47, 46, 43, 65, 66, 67, 68]⟩ : ByteArray), .int .u8 (bt a0 x4_1)] rfl (by (try simp only [List.map_toArray, List.map_cons, List.map_nil]); first | done | rfl | (simp only [List.length_drop, List.length_take]; rfl)) ?_; (with_reducible refine (spec_odAt.calls k1 (⟨#[48, 49, 50, 51, 52, 53, 54, 55, 56, 57, 45, 36, 58, 47, 46, 43, 65, 66, 67, 68]⟩ : ByteArray) (bt a0 x4_1) t221 _ A18.out).mono ?_); rintro e w' ⟨rfl, ⟨nd, rfl⟩⟩; refine ⟨_, rfl, ?_⟩) | ((with_reducible refine gate_callee (f := 37) rfl ?_); refine goesL_ (some 21) rfl rfl Tryz.func37 (by kernel_rfl) rfl #[.int .i64 t221] rfl (by (try simp only [List.map_toArray, List.map_cons, List.map_nil]); first | done | rfl | (simp only [List.length_drop, List.length_take]; rfl)) ?_; (with_reducible refine (spec_odBarBits.calls t221 t222 _ A19.out).mono ?_); rintro e w22 ⟨rfl, hb⟩; refine ⟨_, rfl, ?_⟩; have n0_ := Aside0.mk (Kd.R_below (by (with_reducible repeat (first | apply Kd.R_alloc | apply Kd.R_drewN | apply Kd.R_drew)); exact HO_3.out) hb); have n1_ := Aside0.mk (below_step (by repeat (first | (with_reducible first | exact HB.out | apply below_alloc | apply pw_below_drewN | apply below_drew1) | exact HB.out)) hb); clear HO_3; clear HB; have HO_3 := n0_; have HB := n1_; clear n0_ n1_; (try clear hb); (try clear hb2); (try clear hk); (try clear hi)) | ((with_reducible refine gate_callee (f := 36) rfl ?_); refine goesL_ (some 22) rfl rfl Tryz.func36 (by kernel_rfl) rfl #[.int .i64 t222, .int .i64 7, .int .i64 2] rfl (by (try simp only [List.map_toArray, List.map_cons, List.map_nil]); first | done | rfl | (simp only [List.length_drop, List.length_take]; rfl)) ?_; (with_reducible refine (spec_odElements.calls k1 t222 7 2 t223 _ A20.out).mono ?_); rintro e w23 ⟨v224, rfl, ho0, hb⟩; refine ⟨_, rfl, ?_⟩; have n0_ := Aside0.mk (Kd.R_elder' (by (with_reducible repeat (first | apply Kd.R_alloc | apply Kd.R_drewN | apply Kd.R_drew)); exact HO_3.out) (Kd.R_base ho0) hb); have n1_ := Aside0.mk (Kd.R_lower (Kd.R_new' ho0 (Kd.R_lt (by (with_reducible repeat (first | apply Kd.R_alloc | apply Kd.R_drewN | apply Kd.R_drew)); exact HO_3.out))) (below_size (by repeat (first | (with_reducible first | exact HB.out | apply below_alloc | apply pw_below_drewN | apply below_drew1) | exact HB.out)))); have n2_ := Aside0.mk (below_step (by repeat (first | (with_reducible first | exact HB.out | apply below_alloc | apply pw_below_drewN | apply below_drew1) | exact HB.out)) hb); clear HO_3; clear HB; have HO_3 := n0_; have HO225 := n1_; have HB := n2_; clear n0_ n1_ n2_; (try clear hb); (try clear hb2); (try clear hk); (try clear hi); (try clear ho0); obtain ⟨Ao25, co25, eo25⟩ := Kd.R_slice HO225.out; subst eo25) | ((with_reducible refine gate_builtin (b := .append) (xs := #[.tmp 16, .tmp 22]) rfl ?_); at_builtin; refine Kd.R_append_rows (Kd.int .i64) (w0 := w) w.heap.size rfl (.tmp 16) (.tmp 22) 40 3 (.int .i64 0) 8 rfl Tryz.underlying40 info3 rfl (by decide) (by omega) u3 x3_1 t223 _ _ _ (fun k_ => some k_ ≠ (.slice Ao25 t223.length co25 : Value).ownBlock) (fun _ => False) rfl rfl ?aO ?aR (fun _ _ h => h) (fun _ h => h.elim) ?aF ?aB ?aS ?aL ?_; (case aR => repeat (first | exact (Kd.R_reads' HO225.out).2.2 | (with_reducible refine Kd.C_alloc ?_ _) | (with_reducible refine Kd.C_drewN ?_ _) | (with_reducible refine Kd.C_drew ?_))); (case aB => exact (by repeat (first | (with_reducible first | exact HB.out | apply below_alloc | apply pw_below_drewN | apply below_drew1) | exact HB.out))); (case aF => exact (fun k_ hk => Kd.fresh' (Kd.R_lt (by (with_reducible repeat (first | apply Kd.R_alloc | apply Kd.R_drewN | apply Kd.R_drew)); exact HO225.out)) k_ hk)); (case aO => exact (by (with_reducible repeat (first | apply Kd.R_alloc | apply Kd.R_drewN | apply Kd.R_drew)); exact Kd.R_mono HO_3.out (fun _ hk => hk.2))); (case aS => exact (below_size (by repeat (first | (with_reducible first | exact HB.out | apply below_alloc | apply pw_below_drewN | apply below_drew1) | exact HB.out)))); (case aL => have := LMc21.out; omega); intro v227 w24 ho hb hg hat; rw [← Ny226.out] at ho; have n0_ := Aside0.mk (Kd.R_after (ok := (fun _ => True)) (by (with_reducible repeat (first | apply Kd.R_alloc | apply Kd.R_drewN | apply Kd.R_drew)); exact HO225.out) hg hat); have n1_ := Aside0.mk (hb); have n2_ := Aside0.mk (ho); clear HO225; clear HB; clear HO_3; have HO225 := n0_; have HB := n1_; have HO228 := n2_; clear n0_ n1_ n2_; clear ho hb hg hat))
              go_roundg k1
              case measure => have := HK1.out; omega
              case rel => exact ⟨(y226), (wrap64 (x4_1 + 1)), (by first | rfl | (simp; done) | (simp [*]; done)), H', ⟨by have := HK1.out; omega⟩, ⟨by (with_reducible repeat (first | apply Kd.R_alloc | apply Kd.R_drewN | apply Kd.R_drew)); exact Kd.R_mono HO228.out (fun _ hk => trivial)⟩, ⟨by repeat (first | (with_reducible first | exact HB.out | apply below_alloc | apply pw_below_drewN | apply below_drew1) | exact HB.out)⟩⟩
            · rw [if_neg c21] at H
              exact absurd H (by simp)
          · rw [if_neg c16] at H
            exact absurd H (by simp)
      · rw [if_neg c2] at H
        have c2b0 : decide (x4_1 < (a0.size : Int)) = false := decide_eq_false c2
        clear c2
        replace H := Option.bind_eq_some_iff.mp H
        obtain ⟨t207, A260, H⟩ := H
        replace H : (some t207) = some r := H
        have A26 := Aside0.mk A260
        clear A260
        obtain rfl := Option.some.inj H
        obtain ⟨Ao27, co27, eo27⟩ := Kd.R_slice HO_3.out
        subst eo27
        go_wp2_with (first | ((with_reducible refine gate_callee (f := 38) rfl ?_); refine goesL_ (some 25) rfl rfl Tryz.func38 (by kernel_rfl) rfl #[.slice Ao27 x3_1.length co27] rfl (by (try simp only [List.map_toArray, List.map_cons, List.map_nil]); first | done | rfl | (simp only [List.length_drop, List.length_take]; rfl)) ?_; (with_reducible refine (spec_ODBars.calls k1 _ _ x3_1 t207 _ ?side1 ?side2 A26.out).mono ?_); (case side1 => repeat (first | exact (Kd.R_reads' HO_3.out).2.2 | (with_reducible refine Kd.C_alloc ?_ _) | (with_reducible refine Kd.C_drewN ?_ _) | (with_reducible refine Kd.C_drew ?_))); (case side2 => exact (Kd.R_reads' HO_3.out).2.1); rintro e w28 ⟨v208, rfl, ho0, hb⟩; refine ⟨_, rfl, ?_⟩; have n0_ := Aside0.mk (Kd.R_below (by (with_reducible repeat (first | apply Kd.R_alloc | apply Kd.R_drewN | apply Kd.R_drew)); exact HO_3.out) hb); have n1_ := Aside0.mk (Kd.R_lower ho0 (below_size (by repeat (first | (with_reducible first | exact HB.out | apply below_alloc | apply pw_below_drewN | apply below_drew1) | exact HB.out)))); have n2_ := Aside0.mk (below_step (by repeat (first | (with_reducible first | exact HB.out | apply below_alloc | apply pw_below_drewN | apply below_drew1) | exact HB.out)) hb); clear HO_3; clear HB; have HO_3 := n0_; have HO209 := n1_; have HB := n2_; clear n0_ n1_ n2_; (try clear hb); (try clear hb2); (try clear hk); (try clear hi); (try clear ho0)))
        go_ret
        exact ⟨_, by first | rfl | (simp [errW_none, errW_some] <;> rfl) | (simp [*, errW_none, errW_some] <;> rfl), by (with_reducible repeat (first | apply Kd.R_alloc | apply Kd.R_drewN | apply Kd.R_drew)); exact HO209.out, by repeat (first | (with_reducible first | exact HB.out | apply below_alloc | apply pw_below_drewN | apply below_drew1) | exact HB.out)⟩

-- NOT PRINTED: function 4 (laws_FnODWritesBar)

end Go.Proofs.YthkddnmomjcdaaaGreat.F
