import Derived.Test.YtgccjgpdjkhpdaaGreatGNoSize0
namespace Go.Proofs.YtgccjgpdjkhpdaaGreat.F
open Go.RowKit Go.Proofs.YtgccjgpdjkhpdaaGreatW.PrintWords Go.Proofs.YtgccjgpdjkhpdaaGreatW.PrintLast Go.Proofs.YtgccjgpdjkhpdaaGreatW.PrintMore
attribute [local go_sem] max2_int min2_int max_two min_two max_three min_three max_four min_four   -- for this text's walks alone
set_option linter.unusedVariables false
set_option linter.unusedSimpArgs false

/-! ### spec_QRPatterns: function 15 -/
mutual
def spec_QRPatterns.l0 : Nat → Int → Int → Int → List Int → List (List Bool) → Int → Int → Option ((List (List Bool)))
  | 0, _, _, _, _, _, _, _ => none
  | k + 1, x0, x7, x8, x9, x10, x23, x24 => if x24 < x23 then (if 0 ≤ x7 then (if (x7 : Int).toNat ≤ 281474976710656 then (if 0 ≤ x24 then (if x24 < (x10.length : Int) then ((some (x10.set (x24 : Int).toNat (List.replicate (x7 : Int).toNat false) : List (List Bool))).bind fun y330 => (spec_QRPatterns.l1 k x0 x7 x8 x9 y330 x24 x23 x24 ((rd_L1 y330 x24).length : Int) 0)) else (none)) else (none)) else (none)) else (none)) else (some x10)
def spec_QRPatterns.l1 : Nat → Int → Int → Int → List Int → List (List Bool) → Int → Int → Int → Int → Int → Option ((List (List Bool)))
  | 0, _, _, _, _, _, _, _, _, _, _ => none
  | k + 1, x0, x7, x8, x9, x10, x11, x23, x24, x36, x37 => if x37 < x36 then (if 0 ≤ x11 then (if x11 < (x10.length : Int) then ((spec_qrGiven.f k x0 x9 x11 x37).bind fun t333 => (if t333 = true then ((spec_qrPattern.f k x0 x8 x9 x11 x37).bind fun t334 => (if 0 ≤ x37 then (if x37 < ((rd_L1 x10 x11).length : Int) then (spec_QRPatterns.l1 k x0 x7 x8 x9 (x10.set (x11 : Int).toNat ((rd_L1 x10 x11).set (x37 : Int).toNat t334)) x11 x23 x24 x36 (wrap64 (x37 + 1))) else (none)) else (none))) else (if 0 ≤ x37 then (if x37 < ((rd_L1 x10 x11).length : Int) then (spec_QRPatterns.l1 k x0 x7 x8 x9 (x10.set (x11 : Int).toNat ((rd_L1 x10 x11).set (x37 : Int).toNat false)) x11 x23 x24 x36 (wrap64 (x37 + 1))) else (none)) else (none)))) else (none)) else (none)) else (spec_QRPatterns.l0 k x0 x7 x8 x9 x10 x23 (wrap64 (x24 + 1)))
end
def spec_QRPatterns.f (k : Nat) (a0 : Int) (a1 : Int) (a2 : Int) : Option ((List (List Bool))) := (spec_QRDimension.f a0).bind fun t319 => ((spec_QRFormatBits.f k a1 a2).bind fun t320 => ((spec_QRCenters.f k a0).bind fun t321 => (if 0 ≤ t319 then (if (t319 : Int).toNat ≤ 11728124029610 then ((some (List.replicate (t319 : Int).toNat [] : List (List Bool))).bind fun y324 => (spec_QRPatterns.l0 k a0 t319 t320 t321 y324 (y324.length : Int) 0)) else (none)) else (none))))
theorem spec_QRPatterns.mono_l : ∀ k, (∀ y0 y1 y2 y3 y4 y5 y6, LeO (spec_QRPatterns.l0 k y0 y1 y2 y3 y4 y5 y6) (spec_QRPatterns.l0 (k + 1) y0 y1 y2 y3 y4 y5 y6)) ∧ (∀ y0 y1 y2 y3 y4 y5 y6 y7 y8 y9, LeO (spec_QRPatterns.l1 k y0 y1 y2 y3 y4 y5 y6 y7 y8 y9) (spec_QRPatterns.l1 (k + 1) y0 y1 y2 y3 y4 y5 y6 y7 y8 y9))
  | 0 => ⟨fun _ _ _ _ _ _ _ r h => by simp [spec_QRPatterns.l0] at h, fun _ _ _ _ _ _ _ _ _ _ r h => by simp [spec_QRPatterns.l1] at h⟩
  | k + 1 => by
    obtain ⟨ih0, ih1⟩ := spec_QRPatterns.mono_l k
    refine ⟨?_, ?_⟩
    · intro y0 y1 y2 y3 y4 y5 y6
      unfold spec_QRPatterns.l0
      repeat' first
      | (with_reducible exact ih0 _ _ _ _ _ _ _)
      | (with_reducible exact ih1 _ _ _ _ _ _ _ _ _ _)
      | (with_reducible exact spec_QRCenters.mono _ _)
      | (with_reducible exact spec_QRFormatBits.mono _ _ _)
      | (with_reducible exact spec_qrGiven.mono _ _ _ _ _)
      | (with_reducible exact spec_qrPattern.mono _ _ _ _ _ _)
      | (with_reducible exact LeO.refl _)
      | (with_reducible exact LeO.none _)
      | (with_reducible refine LeO.ite ?_ ?_)
      | (with_reducible refine LeO.bind ?_ (fun _ => ?_))
      | exact ih0 _ _ _ _ _ _ _
      | exact ih1 _ _ _ _ _ _ _ _ _ _
      | exact spec_QRCenters.mono _ _
      | exact spec_QRFormatBits.mono _ _ _
      | exact spec_qrGiven.mono _ _ _ _ _
      | exact spec_qrPattern.mono _ _ _ _ _ _
      | exact LeO.none _
      | refine LeO.ite ?_ ?_
      | refine LeO.bind ?_ (fun _ => ?_)
    · intro y0 y1 y2 y3 y4 y5 y6 y7 y8 y9
      unfold spec_QRPatterns.l1
      repeat' first
      | (with_reducible exact ih0 _ _ _ _ _ _ _)
      | (with_reducible exact ih1 _ _ _ _ _ _ _ _ _ _)
      | (with_reducible exact spec_QRCenters.mono _ _)
      | (with_reducible exact spec_QRFormatBits.mono _ _ _)
      | (with_reducible exact spec_qrGiven.mono _ _ _ _ _)
      | (with_reducible exact spec_qrPattern.mono _ _ _ _ _ _)
      | (with_reducible exact LeO.refl _)
      | (with_reducible exact LeO.none _)
      | (with_reducible refine LeO.ite ?_ ?_)
      | (with_reducible refine LeO.bind ?_ (fun _ => ?_))
      | exact ih0 _ _ _ _ _ _ _
      | exact ih1 _ _ _ _ _ _ _ _ _ _
      | exact spec_QRCenters.mono _ _
      | exact spec_QRFormatBits.mono _ _ _
      | exact spec_qrGiven.mono _ _ _ _ _
      | exact spec_qrPattern.mono _ _ _ _ _ _
      | exact LeO.none _
      | refine LeO.ite ?_ ?_
      | refine LeO.bind ?_ (fun _ => ?_)
theorem spec_QRPatterns.mono : ∀ a0 a1 a2 k, LeO (spec_QRPatterns.f k a0 a1 a2) (spec_QRPatterns.f (k + 1) a0 a1 a2) := by
  intro a0 a1 a2 k
  obtain ⟨ih0, ih1⟩ := spec_QRPatterns.mono_l k
  unfold spec_QRPatterns.f
  repeat' first
      | (with_reducible exact ih0 _ _ _ _ _ _ _)
      | (with_reducible exact ih1 _ _ _ _ _ _ _ _ _ _)
      | (with_reducible exact spec_QRCenters.mono _ _)
      | (with_reducible exact spec_QRFormatBits.mono _ _ _)
      | (with_reducible exact spec_qrGiven.mono _ _ _ _ _)
      | (with_reducible exact spec_qrPattern.mono _ _ _ _ _ _)
      | (with_reducible exact LeO.refl _)
      | (with_reducible exact LeO.none _)
      | (with_reducible refine LeO.ite ?_ ?_)
      | (with_reducible refine LeO.bind ?_ (fun _ => ?_))
      | exact ih0 _ _ _ _ _ _ _
      | exact ih1 _ _ _ _ _ _ _ _ _ _
      | exact spec_QRCenters.mono _ _
      | exact spec_QRFormatBits.mono _ _ _
      | exact spec_qrGiven.mono _ _ _ _ _
      | exact spec_qrPattern.mono _ _ _ _ _ _
      | exact LeO.none _
      | refine LeO.ite ?_ ?_
      | refine LeO.bind ?_ (fun _ => ?_)
def spec_QRPatterns.T12 : Bool × List (List Nat × List Nat) := (true, [([], []), ([], []), ([0, 1], [0, 1]), ([2], [2]), ([], []), ([], []), ([], []), ([], []), ([], []), ([5, 6, 7, 8], [5, 6, 7, 8]), ([9, 9], [9]), ([10], [10]), ([10], [10]), ([10], [10]), ([10], [10]), ([10], [10]), ([11, 12, 13, 14, 15, 10, 10], [10, 11, 12, 13, 14, 15]), ([10, 16], [10, 16]), ([3, 4, 0, 1, 2, 3, 4, 5, 6, 7, 8, 9, 10, 11, 12, 13, 14, 15, 16, 17], [3, 4]), ([18, 17, 16, 0, 1, 2, 3, 4, 5, 6, 7, 8, 9, 10, 11, 12, 13, 14, 15, 16, 17], [17, 18])])
def spec_QRPatterns.B12 : List Nat := [0, 0, 3, 7, 0, 0, 0, 0, 0, 480, 992, 2016, 2016, 2016, 2016, 2016, 65504, 131040, 262143, 524287]
theorem spec_QRPatterns.tab12 : rtab .any (opsOf Tryz.f15 12) = spec_QRPatterns.T12 := by kernel_rfl
theorem spec_QRPatterns.bits12 : waitsOk spec_QRPatterns.T12.2 spec_QRPatterns.B12 = true := by kernel_rfl
set_option maxHeartbeats 8000000 in
set_option maxRecDepth 100000 in
theorem spec_QRPatterns.calls (k : Nat) (a0 : Int) (a1 : Int) (a2 : Int) (r : List (List Bool)) (w : World) (h : spec_QRPatterns.f k a0 a1 a2 = some r) :
    Calls Tryz.prog 15 #[.int .i64 a0, .int .i64 a1, .int .i64 a2] w fun e w' => ∃ v0_ : Value, e = .returned (v0_) ∧ Kd.S (Kd.slice 4 Kd.bool) 45 w' w.heap.size (fun _ => True) v0_ r ∧ Below w.heap.size w w' := by
  have HB := Aside0.mk (Below.refl w.heap.size w)
  have H : ((spec_QRDimension.f a0).bind fun t319 => ((spec_QRFormatBits.f k a1 a2).bind fun t320 => ((spec_QRCenters.f k a0).bind fun t321 => (if 0 ≤ t319 then (if (t319 : Int).toNat ≤ 11728124029610 then ((some (List.replicate (t319 : Int).toNat [] : List (List Bool))).bind fun y324 => (spec_QRPatterns.l0 k a0 t319 t320 t321 y324 (y324.length : Int) 0)) else (none)) else (none))))) = some r := h
  clear h
  replace H := Option.bind_eq_some_iff.mp H
  obtain ⟨t319, A40, H⟩ := H
  replace H : ((spec_QRFormatBits.f k a1 a2).bind fun t320 => ((spec_QRCenters.f k a0).bind fun t321 => (if 0 ≤ t319 then (if (t319 : Int).toNat ≤ 11728124029610 then ((some (List.replicate (t319 : Int).toNat [] : List (List Bool))).bind fun y324 => (spec_QRPatterns.l0 k a0 t319 t320 t321 y324 (y324.length : Int) 0)) else (none)) else (none)))) = some r := H
  have A4 := Aside0.mk A40
  clear A40
  replace H := Option.bind_eq_some_iff.mp H
  obtain ⟨t320, A50, H⟩ := H
  replace H : ((spec_QRCenters.f k a0).bind fun t321 => (if 0 ≤ t319 then (if (t319 : Int).toNat ≤ 11728124029610 then ((some (List.replicate (t319 : Int).toNat [] : List (List Bool))).bind fun y324 => (spec_QRPatterns.l0 k a0 t319 t320 t321 y324 (y324.length : Int) 0)) else (none)) else (none))) = some r := H
  have A5 := Aside0.mk A50
  clear A50
  replace H := Option.bind_eq_some_iff.mp H
  obtain ⟨t321, A60, H⟩ := H
  replace H : (if 0 ≤ t319 then (if (t319 : Int).toNat ≤ 11728124029610 then ((some (List.replicate (t319 : Int).toNat [] : List (List Bool))).bind fun y324 => (spec_QRPatterns.l0 k a0 t319 t320 t321 y324 (y324.length : Int) 0)) else (none)) else (none)) = some r := H
  have A6 := Aside0.mk A60
  clear A60
  by_cases c7 : 0 ≤ t319
  · rw [if_pos c7] at H
    have c7b0 := eq_true c7
    have c7b1 : decide (0 ≤ t319) = true := decide_eq_true c7
    clear c7
    by_cases c8 : (t319 : Int).toNat ≤ 11728124029610
    · rw [if_pos c8] at H
      have c8b0 := eq_true c8
      have c8b1 : decide ((t319 : Int).toNat ≤ 11728124029610) = true := decide_eq_true c8
      clear c8
      obtain ⟨y324, hy324⟩ : ∃ y_ : List (List Bool), y_ = (List.replicate (t319 : Int).toNat []) := ⟨_, rfl⟩
      replace H : (spec_QRPatterns.l0 k a0 t319 t320 t321 y324 (y324.length : Int) 0) = some r := by first | (rw [hy324]; with_reducible exact H) | (have H2_ := (Option.bind_some _ _).symm.trans H; rw [hy324]; with_reducible exact H2_) | (have H2_ := (Option.bind_some _ _).symm.trans H; with_reducible exact H2_) | with_reducible exact H | (rw [hy324]; exact H) | exact H
      have Ny324 := Aside0.mk hy324
      clear hy324
      have H' := Aside0.mk H
      clear H
      go_enter Tryz.func15, Tryz.ntmps15
      go_wp2_with (first | ((with_reducible refine gate_callee (f := 46) rfl ?_); refine goesL_ (some 14) rfl rfl Tryz.func46 (by kernel_rfl) rfl #[.int .i64 a0] rfl (by (try simp only [List.map_toArray, List.map_cons, List.map_nil]); first | done | rfl | (simp only [List.length_drop, List.length_take]; rfl)) ?_; (with_reducible refine (spec_QRDimension.calls a0 t319 _ A4.out).mono ?_); rintro e w' ⟨rfl, ⟨nd, rfl⟩⟩; refine ⟨_, rfl, ?_⟩) | ((with_reducible refine gate_callee (f := 47) rfl ?_); refine goesL_ (some 17) rfl rfl Tryz.func47 (by kernel_rfl) rfl #[.int .i64 a1, .int .i64 a2] rfl (by (try simp only [List.map_toArray, List.map_cons, List.map_nil]); first | done | rfl | (simp only [List.length_drop, List.length_take]; rfl)) ?_; (with_reducible refine (spec_QRFormatBits.calls k a1 a2 t320 _ A5.out).mono ?_); rintro e w' ⟨rfl, ⟨nd, rfl⟩⟩; refine ⟨_, rfl, ?_⟩) | ((with_reducible refine gate_callee (f := 48) rfl ?_); refine goesL_ (some 19) rfl rfl Tryz.func48 (by kernel_rfl) rfl #[.int .i64 a0] rfl (by (try simp only [List.map_toArray, List.map_cons, List.map_nil]); first | done | rfl | (simp only [List.length_drop, List.length_take]; rfl)) ?_; (with_reducible refine (spec_QRCenters.calls k a0 t321 _ A6.out).mono ?_); rintro e w9 ⟨v322, rfl, ho0, hb⟩; refine ⟨_, rfl, ?_⟩; have n0_ := Aside0.mk (Kd.R_lower ho0 (below_size (by repeat (first | (with_reducible first | exact HB.out | apply below_alloc | apply pw_below_drewN | apply below_drew1) | exact HB.out)))); have n1_ := Aside0.mk (below_step (by repeat (first | (with_reducible first | exact HB.out | apply below_alloc | apply pw_below_drewN | apply below_drew1) | exact HB.out)) hb); clear HB; have HO323 := n0_; have HB := n1_; clear n0_ n1_; (try clear hb); (try clear hb2); (try clear hk); (try clear hi); (try clear ho0)) | ((with_reducible refine gate_dst (N := 21) rfl ?_); refine Kd.S_make (Kd.slice 4 Kd.bool) _ 45 rfl (N := 21) rfl 22 _ _ rfl t319 rfl rfl Tryz.underlying22 (.slice none 0 0) 24 info45 rfl (by decide) (by omega) [] (ok := fun _ => True) (okp := fun _ => True) ⟨_, rfl, Kd.R_nil _ _ _ _ _⟩ (fun _ hk => hk) trivial (of_decide_eq_true (by first | (with_reducible assumption) | assumption)) (Nat.le_trans (Nat.mul_le_mul_right _ (of_decide_eq_true (by first | (with_reducible assumption) | assumption) : t319.toNat ≤ 11728124029610)) (by omega)) (Below.refl _ _) (Nat.le_refl _) ?_; intro v325 w10 ho11 hb hg_ hnew_; clear hg_ hnew_; (first | rw [← Ny324.out] at ho11 | (simp only [Int.reduceToNat] at ho11; rw [← Ny324.out] at ho11)); have n0_ := Aside0.mk (Kd.R_below (by (with_reducible repeat (first | apply Kd.R_alloc | apply Kd.R_drewN | apply Kd.R_drew)); exact HO323.out) hb); have n1_ := Aside0.mk (Kd.S_lower ho11 (below_size (by repeat (first | (with_reducible first | exact HB.out | apply below_alloc | apply pw_below_drewN | apply below_drew1) | exact HB.out)))); have n2_ := Aside0.mk (below_step (by repeat (first | (with_reducible first | exact HB.out | apply below_alloc | apply pw_below_drewN | apply below_drew1) | exact HB.out)) hb); clear HO323; clear HB; have HO323 := n0_; have HO326 := n1_; have HB := n2_; clear n0_ n1_ n2_; clear hb ho11; obtain ⟨Ao12, co12, eo12⟩ := Kd.S_slice HO326.out; subst eo12))
      go_loopg [24] k (fun kq v24 w' => ∃ (x10_1 : List (List Bool)) (x24_1 : Int), v24 = .int .i64 x24_1 ∧ Aside0 (spec_QRPatterns.l0 kq a0 t319 t320 t321 x10_1 (y324.length : Int) x24_1 = some r) ∧ Aside0 (kq ≤ k) ∧ Aside0 (Kd.R (Kd.int .i64) 3 w' w.heap.size (fun _ => True) v322 t321) ∧ Aside0 (Kd.S (Kd.slice 4 Kd.bool) 45 w' w.heap.size (fun _ => True) (.slice Ao12 y324.length co12) x10_1) ∧ Aside0 (Below w.heap.size w w'))
      case atStart => exact ⟨(y324), (0), (by first | rfl | (simp; done) | (simp [*]; done)), H', ⟨Nat.le_refl _⟩, ⟨by (with_reducible repeat (first | apply Kd.R_alloc | apply Kd.R_drewN | apply Kd.R_drew)); exact HO323.out⟩, ⟨by (with_reducible repeat (first | apply Kd.S_alloc | apply Kd.S_drewN | apply Kd.S_drew)); exact HO326.out⟩, ⟨by repeat (first | (with_reducible first | exact HB.out | apply below_alloc | apply pw_below_drewN | apply below_drew1) | exact HB.out)⟩⟩
      case round =>
        clear H'
        try clear c1
        try clear p2
        try clear c4
        try clear c7
        try clear c7b0
        try clear c7b1
        try clear c8
        try clear c8b0
        try clear c8b1
        obtain ⟨x10_1, x24_1, rfl, HA, HK1, HO_9, HO_10, HB⟩ := hrel
        have hl10_1 := (Kd.S_reads' HO_10.out).1
        rw [hl10_1] at HO_10
        (try simp only [hl10_1])
        (try simp only [hl10_1] at HO_9)
        cases gk with
        | zero => exact absurd HA.out (by simp [spec_QRPatterns.l0])
        | succ k1 =>
          have H := HA.out
          clear HA
          simp only [spec_QRPatterns.l0] at H
          by_cases c13 : x24_1 < (y324.length : Int)
          · rw [if_pos c13] at H
            have c13b0 : decide (x24_1 < (y324.length : Int)) = true := decide_eq_true c13
            clear c13
            by_cases c14 : 0 ≤ t319
            · rw [if_pos c14] at H
              have c14b0 := eq_true c14
              have c14b1 : decide (0 ≤ t319) = true := decide_eq_true c14
              clear c14
              by_cases c15 : (t319 : Int).toNat ≤ 281474976710656
              · rw [if_pos c15] at H
                have c15b0 := eq_true c15
                have c15b1 : decide ((t319 : Int).toNat ≤ 281474976710656) = true := decide_eq_true c15
                clear c15
                obtain ⟨y327, hy327⟩ : ∃ y_ : List Bool, y_ = (List.replicate (t319 : Int).toNat false) := ⟨_, rfl⟩
                replace H : (if 0 ≤ x24_1 then (if x24_1 < (x10_1.length : Int) then ((some (x10_1.set (x24_1 : Int).toNat y327 : List (List Bool))).bind fun y330 => (spec_QRPatterns.l1 k1 a0 t319 t320 t321 y330 x24_1 (y324.length : Int) x24_1 ((rd_L1 y330 x24_1).length : Int) 0)) else (none)) else (none)) = some r := by first | (rw [hy327]; with_reducible exact H) | (have H2_ := (Option.bind_some _ _).symm.trans H; rw [hy327]; with_reducible exact H2_) | (have H2_ := (Option.bind_some _ _).symm.trans H; with_reducible exact H2_) | with_reducible exact H | (rw [hy327]; exact H) | exact H
                have Ny327 := Aside0.mk hy327
                clear hy327
                by_cases c16 : 0 ≤ x24_1
                · rw [if_pos c16] at H
                  have c16b0 : decide (0 ≤ x24_1) = true := decide_eq_true c16
                  clear c16
                  by_cases c17 : x24_1 < (x10_1.length : Int)
                  · rw [if_pos c17] at H
                    have c17b0 : decide (x24_1 < (x10_1.length : Int)) = true := decide_eq_true c17
                    clear c17
                    obtain ⟨y330, hy330⟩ : ∃ y_ : List (List Bool), y_ = (x10_1.set (x24_1 : Int).toNat y327) := ⟨_, rfl⟩
                    replace H : (spec_QRPatterns.l1 k1 a0 t319 t320 t321 y330 x24_1 (y324.length : Int) x24_1 ((rd_L1 y330 x24_1).length : Int) 0) = some r := by first | (rw [hy330]; with_reducible exact H) | (have H2_ := (Option.bind_some _ _).symm.trans H; rw [hy330]; with_reducible exact H2_) | (have H2_ := (Option.bind_some _ _).symm.trans H; with_reducible exact H2_) | with_reducible exact H | (rw [hy330]; exact H) | exact H
                    have Ny330 := Aside0.mk hy330
                    clear hy330
                    have H' := Aside0.mk H
                    clear H
                    go_wp2_with (first | ((with_reducible refine gate_dst (N := 30) rfl ?_); refine Kd.R_make Kd.bool _ 4 rfl (N := 30) rfl 45 _ _ rfl t319 rfl rfl Tryz.underlying45 (.bool false) 1 info4 rfl (by decide) (by omega) false (ok := fun _ => True) (okp := fun _ => True) rfl (fun _ hk => hk) trivial (of_decide_eq_true (by first | (with_reducible assumption) | assumption)) (Nat.le_trans (Nat.mul_le_mul_right _ (of_decide_eq_true (by first | (with_reducible assumption) | assumption) : t319.toNat ≤ 281474976710656)) (by omega)) (Below.refl _ _) (Nat.le_refl _) ?_; intro v328 w19 ho20 hb hg_ hnew_; clear hg_ hnew_; (first | rw [← Ny327.out] at ho20 | (simp only [Int.reduceToNat] at ho20; rw [← Ny327.out] at ho20)); have n0_ := Aside0.mk (Kd.R_below (by (with_reducible repeat (first | apply Kd.R_alloc | apply Kd.R_drewN | apply Kd.R_drew)); exact HO_9.out) hb); have n1_ := Aside0.mk (Kd.S_elder' (by (with_reducible repeat (first | apply Kd.S_alloc | apply Kd.S_drewN | apply Kd.S_drew)); exact HO_10.out) (Kd.R_base ho20) hb); have n2_ := Aside0.mk (Kd.R_lower ho20 (below_size (by repeat (first | (with_reducible first | exact HB.out | apply below_alloc | apply pw_below_drewN | apply below_drew1) | exact HB.out)))); have n3_ := Aside0.mk (below_step (by repeat (first | (with_reducible first | exact HB.out | apply below_alloc | apply pw_below_drewN | apply below_drew1) | exact HB.out)) hb); clear HO_9; clear HO_10; clear HB; have HO_9 := n0_; have HO_10 := n1_; have HO329 := n2_; have HB := n3_; clear n0_ n1_ n2_ n3_; clear hb ho20; have p18 : 0 ≤ (x24_1 : Int) := of_decide_eq_true (by first | (with_reducible assumption) | assumption); have q18 : (x24_1 : Int) < ((x10_1.length : Int) : Int) := of_decide_eq_true (by first | (with_reducible assumption) | assumption); obtain ⟨go18, co18, eo18, gb18, gl18, cl18, HG18⟩ := Kd.S_form HO_10.out (by omega); (first | cases eo18 | (injection eo18 with ea_ en_ ec_; (first | subst ea_ | (injection ea_ with ea_; subst ea_)); subst ec_; clear en_)); have GB18 := Aside0.mk gb18; have GG18 := Aside0.mk HG18; clear gb18 gl18 HG18; obtain ⟨_, ce18, hcl18, hM18, hcc18, hfr18, _, _⟩ := Kd.S_elem HO_10.out [] (x24_1 : Int) p18 q18; obtain ⟨ve18_0, rfl, ge18_0⟩ := hM18; have hx18_0 := hcc18 0 _ rfl; have hf18_0 := hfr18 0; (try simp only [show ((Kd.slice 4 Kd.bool)).sz = 1 from rfl, Nat.mul_one, Nat.add_zero] at hx18_0); (try simp only [show ((Kd.slice 4 Kd.bool)).sz = 1 from rfl, Nat.mul_one, Nat.add_zero] at hf18_0); clear hcl18 hcc18 hfr18; (try clear hM18); replace p18 := eq_true p18; replace q18 := eq_true q18; have n_ := Aside0.mk (Kd.S_mono (ok' := (fun k_ => some k_ ≠ (v328 : Value).ownBlock)) HO_10.out (fun k_ hk => hk.2)); clear HO_10; have HO_10 := n_; clear n_; have HX21 := Aside0.mk (show Kd.S (Kd.slice 4 Kd.bool) 45 w19 w.heap.size (fun k_ => ((fun _ => True)) k_ ∧ ¬ ((fun k_ => some k_ = (v328 : Value).ownBlock)) k_) (.slice (some ⟨go18, 0, none⟩) x10_1.length co12) x10_1 from (by (with_reducible repeat (first | apply Kd.S_alloc | apply Kd.S_drewN | apply Kd.S_drew)); exact Kd.S_mono HO_10.out (fun k_ hk => ⟨trivial, fun e_ => hk e_⟩))); obtain ⟨oki21, ce21, hcl21, hM21, hcc21, hfr21, hoki21, hH21⟩ := Kd.S_elem HX21.out [] (x24_1 : Int) (of_decide_eq_true (by first | (with_reducible assumption) | assumption)) (by have h_ : (x24_1 : Int) < ((x10_1.length : Int) : Int) := of_decide_eq_true (by first | (with_reducible assumption) | assumption); first | exact h_ | (have e_ := (Kd.S_reads' HO_10.out).1; omega) | simpa using h_); obtain ⟨ve21_0, rfl, ge21_0⟩ := hM21; have HP21 := Kd.S_seg hH21 (of_decide_eq_true (by first | (with_reducible assumption) | assumption)) (by have h_ : (x24_1 : Int) < ((x10_1.length : Int) : Int) := of_decide_eq_true (by first | (with_reducible assumption) | assumption); first | exact h_ | (have e_ := (Kd.S_reads' HO_10.out).1; omega) | simpa using h_) (seg := [v328]) (j := 0) (show 1 ≤ 1 from by decide) (x' := y327) (Kd.M_row (Kd.R_mono (Kd.R_tight rfl (Kd.R_mono (ok' := fun k_ => ((fun _ => True)) k_ ∧ k_ ≠ go18) (Kd.R_apart' (HO329.out) (Kd.S_typed HO_10.out) (by decide)) (fun k_ hk => ⟨trivial, fun e_ => (hk.2) (by rw [e_]; rfl)⟩))) (fun _ h_ => Or.inr (h_)))) (fun _ hk => hk) (fun k_ hk_ => ((Kd.R_mono (ok' := fun k_ => ((fun _ => True)) k_ ∧ k_ ≠ go18) (Kd.R_apart' (HO329.out) (Kd.S_typed HO_10.out) (by decide)) (fun k_ hk => ⟨trivial, fun e_ => (hk.2) (by rw [e_]; rfl)⟩))).1 k_ hk_.symm); have hx21_0 := hcc21 0 _ rfl; (try simp only [show ((Kd.slice 4 Kd.bool)).sz = 1 from rfl, Nat.mul_one, Nat.add_zero] at hx21_0); have hf21_0 := hfr21 0; (try simp only [show ((Kd.slice 4 Kd.bool)).sz = 1 from rfl, Nat.mul_one, Nat.add_zero] at hf21_0); clear hcl21 hcc21 hfr21 hoki21 hH21; (try clear hM21); (try simp only [show ((Kd.slice 4 Kd.bool)).sz = 1 from rfl, Nat.mul_one, Nat.add_zero] at HP21)) | ((with_reducible refine gate_store (t := 45) (p := 31) rfl ?_); refine store_event (t := 45) (p := 31) (v := ?vo_w22) (w1 := (w19.setCell ⟨go18, (x24_1 : Int).toNat, none⟩ (v328))) ?hg ?ho ?hn ?hr ?_; (case ho => rfl); (case hg => rfl); (case hn => rfl); (case hr => first | (go_simp; done) | (go_simp; rfl) | (obtain ⟨Av_, cv_, ev_⟩ := Kd.R_slice HO329.out; subst ev_; first | (go_simp; done) | (go_simp; rfl))); intro w22 hw; have hg : w19.grownBy w22 (some go18) := (by rw [hw]; exact HP21.2); have hp_ : Kd.S (Kd.slice 4 Kd.bool) 45 w22 w.heap.size (fun _ => True) (.slice (some ⟨go18, 0, none⟩) x10_1.length co12) y330 := (by rw [hw, Ny330.out]; exact HP21.1); clear HP21; have n0_ := Aside0.mk (Kd.R_over' (v := (.slice (some ⟨go18, 0, none⟩) x10_1.length co12)) (by (with_reducible repeat (first | apply Kd.R_alloc | apply Kd.R_drewN | apply Kd.R_drew)); exact HO_9.out) (Kd.S_typed HO_10.out) (by decide) hg); have n1_ := Aside0.mk (hp_); have n2_ := Aside0.mk ((by rw [hw]; exact below_set (HB.out) GB18.out : Below w.heap.size w w22)); clear HO_9; clear HO_10; clear HB; clear HO329; have HO_9 := n0_; have HO_10 := n1_; have HB := n2_; clear n0_ n1_ n2_; clear hg hw hp_; have p331 : 0 ≤ (x24_1 : Int) := of_decide_eq_true (by first | (with_reducible assumption) | assumption); have q331 : x24_1 < (y330.length : Int) := (by have h_ : (x24_1 : Int) < ((x10_1.length : Int) : Int) := of_decide_eq_true (by first | (with_reducible assumption) | assumption); first | (have e_ := (Kd.S_reads' HO_10.out).1; omega) | simpa only [Ny330.out, List.length_set] using h_); have ql331 : ((x24_1 : Int) < ((x10_1.length : Int) : Int)) = True := eq_true (of_decide_eq_true (by first | (with_reducible assumption) | assumption)); obtain ⟨ad331, A331_0, c331_0, e331, hx331_0, hl331_0, hi331_0⟩ := at_L1 (Kd.S_reads' HO_10.out).2.2 x24_1 p331 q331; obtain rfl : (⟨go18, 0, none⟩ : Addr) = ad331 := (by injection e331); obtain ⟨ce331, hce331, hMe331, hcc331⟩ := Kd.S_get HO_10.out [] x24_1 p331 (by first | exact q331 | exact of_decide_eq_true (by first | (with_reducible assumption) | assumption) | (have e_ := (Kd.S_reads' HO_10.out).1; omega)); obtain ⟨ve331_0, rfl, ge331_0⟩ := hMe331; have hv331_0 := hcc331 0 _ rfl; rw [Nat.add_zero, show ((Kd.slice 4 Kd.bool)).sz = 1 from rfl, Nat.mul_one] at hv331_0; replace hv331_0 := Option.some.inj (hv331_0.symm.trans hx331_0); rw [hv331_0] at ge331_0; have HL331_0 := Aside0.mk (show Kd.R Kd.bool 4 _ _ _ _ (rd_L1 y330 x24_1) from ge331_0); clear hv331_0 ge331_0; have HX331_0 := Aside0.mk hx331_0; clear hcc331 hce331; (first | simp only [add_plain] at hx331_0 | simp only [add_at] at hx331_0 | simp only [Addr.add, Nat.zero_add] at hx331_0 | skip); have HR331_0 := Aside0.mk hi331_0; have HC331_0 := Aside0.mk hl331_0; clear hi331_0 hl331_0; replace p331 := eq_true p331; replace q331 := eq_true q331))
                    go_loopg [37] k1 (fun kq v37 w' => ∃ (x10_2 : List (List Bool)) (x37_2 : Int), v37 = .int .i64 x37_2 ∧ Aside0 (spec_QRPatterns.l1 kq a0 t319 t320 t321 x10_2 x24_1 (y324.length : Int) x24_1 ((rd_L1 y330 x24_1).length : Int) x37_2 = some r) ∧ Aside0 (kq ≤ k1) ∧ Aside0 (Kd.R (Kd.int .i64) 3 w' w.heap.size (fun _ => True) v322 t321) ∧ Aside0 (Kd.S (Kd.slice 4 Kd.bool) 45 w' w.heap.size (fun _ => True) (.slice (some ⟨go18, 0, none⟩) x10_1.length co12) x10_2) ∧ Aside0 (Below w.heap.size w w'))
                    case atStart => exact ⟨(y330), (0), (by first | rfl | (simp; done) | (simp [*]; done)), H', ⟨Nat.le_refl _⟩, ⟨by (try simp only [hl10_1]); (with_reducible repeat (first | apply Kd.R_alloc | apply Kd.R_drewN | apply Kd.R_drew)); exact HO_9.out⟩, ⟨by (try simp only [hl10_1]); (with_reducible repeat (first | apply Kd.S_alloc | apply Kd.S_drewN | apply Kd.S_drew)); exact HO_10.out⟩, ⟨by repeat (first | (with_reducible first | exact HB.out | apply below_alloc | apply pw_below_drewN | apply below_drew1) | exact HB.out)⟩⟩
                    case round =>
                      clear H'
                      try clear c1
                      try clear p1
                      try clear q1
                      try clear hx1
                      try clear c2
                      try clear p2
                      try clear hx2
                      try clear c3
                      try clear p3
                      try clear q3
                      try clear hx3
                      try clear c4
                      try clear c7
                      try clear c7b0
                      try clear c7b1
                      try clear c8
                      try clear c8b0
                      try clear c8b1
                      try clear c13
                      try clear c13b0
                      try clear c14
                      try clear c14b0
                      try clear c14b1
                      try clear c15
                      try clear c15b0
                      try clear c15b1
                      try clear c16
                      try clear c16b0
                      try clear c17
                      try clear c17b0
                      try clear c18
                      try clear p18
                      try clear q18
                      try clear hx18
                      try clear hf18
                      try clear c21
                      try clear hx21
                      try clear hf21
                      try clear hx18_0
                      try clear hx21_0
                      try clear hx331_0
                      try clear p18
                      try clear p2
                      try clear p331
                      try clear q18
                      try clear q331
                      obtain ⟨x10_2, x37_2, rfl, HA, HK2, HO_9, HO_10, HB⟩ := hrel
                      have hl10_2 := (Kd.S_reads' HO_10.out).1
                      rw [hl10_2] at HO_10
                      (try simp only [hl10_2])
                      (try simp only [hl10_2] at HO_9)
                      cases gk with
                      | zero => exact absurd HA.out (by simp [spec_QRPatterns.l1])
                      | succ k2 =>
                        have H := HA.out
                        clear HA
                        simp only [spec_QRPatterns.l1] at H
                        by_cases c23 : x37_2 < ((rd_L1 y330 x24_1).length : Int)
                        · rw [if_pos c23] at H
                          have c23b0 : decide (x37_2 < ((rd_L1 y330 x24_1).length : Int)) = true := decide_eq_true c23
                          clear c23
                          by_cases c24 : 0 ≤ x24_1
                          · rw [if_pos c24] at H
                            have c24b0 : decide (0 ≤ x24_1) = true := decide_eq_true c24
                            clear c24
                            by_cases c25 : x24_1 < (x10_2.length : Int)
                            · rw [if_pos c25] at H
                              have c25b0 : decide (x24_1 < (x10_2.length : Int)) = true := decide_eq_true c25
                              clear c25
                              replace H := Option.bind_eq_some_iff.mp H
                              obtain ⟨t333, A260, H⟩ := H
                              replace H : (if t333 = true then ((spec_qrPattern.f k2 a0 t320 t321 x24_1 x37_2).bind fun t334 => (if 0 ≤ x37_2 then (if x37_2 < ((rd_L1 x10_2 x24_1).length : Int) then (spec_QRPatterns.l1 k2 a0 t319 t320 t321 (x10_2.set (x24_1 : Int).toNat ((rd_L1 x10_2 x24_1).set (x37_2 : Int).toNat t334)) x24_1 (y324.length : Int) x24_1 ((rd_L1 y330 x24_1).length : Int) (wrap64 (x37_2 + 1))) else (none)) else (none))) else (if 0 ≤ x37_2 then (if x37_2 < ((rd_L1 x10_2 x24_1).length : Int) then (spec_QRPatterns.l1 k2 a0 t319 t320 t321 (x10_2.set (x24_1 : Int).toNat ((rd_L1 x10_2 x24_1).set (x37_2 : Int).toNat false)) x24_1 (y324.length : Int) x24_1 ((rd_L1 y330 x24_1).length : Int) (wrap64 (x37_2 + 1))) else (none)) else (none))) = some r := H
                              have A26 := Aside0.mk A260
                              clear A260
                              by_cases c27 : t333 = true
                              · subst c27
                                have H1 : ((spec_qrPattern.f k2 a0 t320 t321 x24_1 x37_2).bind fun t334 => (if 0 ≤ x37_2 then (if x37_2 < ((rd_L1 x10_2 x24_1).length : Int) then (spec_QRPatterns.l1 k2 a0 t319 t320 t321 (x10_2.set (x24_1 : Int).toNat ((rd_L1 x10_2 x24_1).set (x37_2 : Int).toNat t334)) x24_1 (y324.length : Int) x24_1 ((rd_L1 y330 x24_1).length : Int) (wrap64 (x37_2 + 1))) else (none)) else (none))) = some r := by rw [if_pos rfl] at H; exact H
                                clear H
                                have H := H1
                                clear H1
                                replace H := Option.bind_eq_some_iff.mp H
                                obtain ⟨t334, A280, H⟩ := H
                                replace H : (if 0 ≤ x37_2 then (if x37_2 < ((rd_L1 x10_2 x24_1).length : Int) then (spec_QRPatterns.l1 k2 a0 t319 t320 t321 (x10_2.set (x24_1 : Int).toNat ((rd_L1 x10_2 x24_1).set (x37_2 : Int).toNat t334)) x24_1 (y324.length : Int) x24_1 ((rd_L1 y330 x24_1).length : Int) (wrap64 (x37_2 + 1))) else (none)) else (none)) = some r := H
                                have A28 := Aside0.mk A280
                                clear A280
                                by_cases c29 : 0 ≤ x37_2
                                · rw [if_pos c29] at H
                                  have c29b0 : decide (0 ≤ x37_2) = true := decide_eq_true c29
                                  clear c29
                                  by_cases c30 : x37_2 < ((rd_L1 x10_2 x24_1).length : Int)
                                  · rw [if_pos c30] at H
                                    have c30b0 : decide (x37_2 < ((rd_L1 x10_2 x24_1).length : Int)) = true := decide_eq_true c30
                                    clear c30
                                    obtain ⟨y335, hy335⟩ : ∃ y_ : List Bool, y_ = ((rd_L1 x10_2 x24_1).set (x37_2 : Int).toNat t334) := ⟨_, rfl⟩
                                    replace H : (spec_QRPatterns.l1 k2 a0 t319 t320 t321 (x10_2.set (x24_1 : Int).toNat y335) x24_1 (y324.length : Int) x24_1 ((rd_L1 y330 x24_1).length : Int) (wrap64 (x37_2 + 1))) = some r := by first | (rw [hy335]; with_reducible exact H) | (have H2_ := (Option.bind_some _ _).symm.trans H; rw [hy335]; with_reducible exact H2_) | (have H2_ := (Option.bind_some _ _).symm.trans H; with_reducible exact H2_) | with_reducible exact H | (rw [hy335]; exact H) | exact H
                                    have Ny335 := Aside0.mk hy335
                                    clear hy335
                                    obtain ⟨y337, hy337⟩ : ∃ y_ : List (List Bool), y_ = (x10_2.set (x24_1 : Int).toNat y335) := ⟨_, rfl⟩
                                    replace H : (spec_QRPatterns.l1 k2 a0 t319 t320 t321 y337 x24_1 (y324.length : Int) x24_1 ((rd_L1 y330 x24_1).length : Int) (wrap64 (x37_2 + 1))) = some r := by first | (rw [hy337]; with_reducible exact H) | (have H2_ := (Option.bind_some _ _).symm.trans H; rw [hy337]; with_reducible exact H2_) | (have H2_ := (Option.bind_some _ _).symm.trans H; with_reducible exact H2_) | with_reducible exact H | (rw [hy337]; exact H) | exact H
                                    have Ny337 := Aside0.mk hy337
                                    clear hy337
                                    have H' := Aside0.mk H
                                    clear H
                                    try go_wp2
                                    have n0_ := Aside0.mk (Kd.R_drew HO_9.out)
                                    have n1_ := Aside0.mk (Kd.S_drew HO_10.out)
                                    have n2_ := Aside0.mk (below_drew1 HB.out)
                                    clear HO_9
                                    clear HO_10
                                    clear HB
                                    have HO_9 := n0_
                                    have HO_10 := n1_
                                    have HB := n2_
                                    clear n0_ n1_ n2_
                                    have p332 : 0 ≤ (x24_1 : Int) := of_decide_eq_true (by first | (with_reducible assumption) | assumption)
                                    have q332 : x24_1 < (x10_2.length : Int) := of_decide_eq_true (by first | (with_reducible assumption) | assumption)
                                    obtain ⟨ad332, A332_0, c332_0, e332, hx332_0, hl332_0, hi332_0⟩ := at_L1 (Kd.S_reads' HO_10.out).2.2 x24_1 p332 q332
                                    obtain rfl : (⟨go18, 0, none⟩ : Addr) = ad332 := (by injection e332)
                                    obtain ⟨ce332, hce332, hMe332, hcc332⟩ := Kd.S_get HO_10.out [] x24_1 p332 (by first | exact q332 | exact of_decide_eq_true (by first | (with_reducible assumption) | assumption) | (have e_ := (Kd.S_reads' HO_10.out).1; omega))
                                    obtain ⟨ve332_0, rfl, ge332_0⟩ := hMe332
                                    have hv332_0 := hcc332 0 _ rfl
                                    rw [Nat.add_zero, show ((Kd.slice 4 Kd.bool)).sz = 1 from rfl, Nat.mul_one] at hv332_0
                                    replace hv332_0 := Option.some.inj (hv332_0.symm.trans hx332_0)
                                    rw [hv332_0] at ge332_0
                                    have HL332_0 := Aside0.mk (show Kd.R Kd.bool 4 _ _ _ _ (rd_L1 x10_2 x24_1) from ge332_0)
                                    clear hv332_0 ge332_0
                                    have HX332_0 := Aside0.mk hx332_0
                                    clear hcc332 hce332
                                    (first | simp only [add_plain] at hx332_0 | simp only [add_at] at hx332_0 | simp only [Addr.add, Nat.zero_add] at hx332_0 | skip)
                                    have HR332_0 := Aside0.mk hi332_0
                                    have HC332_0 := Aside0.mk hl332_0
                                    clear hi332_0 hl332_0
                                    replace p332 := eq_true p332
                                    replace q332 := eq_true q332
                                    obtain ⟨Ao33, co33, eo33⟩ := Kd.R_slice HO_9.out
                                    (first | subst eo33 | (injection eo33 with f1_ f2_ f3_; have f4_ := f1_.symm; have f5_ := f3_.symm; clear f1_ f2_ f3_; subst f4_; subst f5_))
                                    refine start_ (n := 20) (S := fun w' => w'.cell? ⟨go18, (x24_1).toNat, none⟩ = some (.slice A332_0 (rd_L1 x10_2 x24_1).length c332_0)) (ds := [19]) #[false, false, false, false, false, false, false, false, false, false, false, false, false, false, false, false, false, false, false, false] (by kernel_rfl) rfl rfl (hx332_0) (fun hHeld => ?_); refine with_tabW spec_QRPatterns.tab12 spec_QRPatterns.bits12 (fun HT_ HW_ => ?_)
                                    generalize wr.drew = w32 at HO_9 HO_10 HB HL332_0 HR332_0 HX332_0 hx332_0 hHeld ⊢
                                    refine pure_ (i := 0) (N := some 40) (v := ?_) (a' := ?_) #[true, false, false, false, false, false, false, false, false, false, false, false, false, false, false, false, false, false, false, false] rfl rfl (any_of HT_.out (by kernel_rfl)) (fun _ _ _ h => h) (Or.inl ⟨by rfl, ?_⟩) ?_ ?_
                                    rotate_left
                                    · intro w'
                                      go_simp
                                      with_reducible rfl
                                    rotate_left
                                    · simp only [Act.put, List.setIfInBounds_toArray, List.set_cons_zero, List.set_cons_succ, i64_w, i32_w]
                                      rfl
                                    refine pure_ (i := 1) (N := some 41) (v := ?_) (a' := ?_) #[true, true, false, false, false, false, false, false, false, false, false, false, false, false, false, false, false, false, false, false] rfl rfl (any_of HT_.out (by kernel_rfl)) (fun _ _ _ h => h) (Or.inl ⟨by rfl, ?_⟩) ?_ ?_
                                    rotate_left
                                    · intro w'
                                      go_simp
                                      with_reducible rfl
                                    rotate_left
                                    · simp only [Act.put, List.setIfInBounds_toArray, List.set_cons_zero, List.set_cons_succ, i64_w, i32_w]
                                      rfl
                                    refine pure_ (i := 2) (N := some 42) (v := ?_) (a' := ?_) #[true, true, true, false, false, false, false, false, false, false, false, false, false, false, false, false, false, false, false, false] rfl rfl (any_of HT_.out (by kernel_rfl)) (fun _ _ _ h => h) (Or.inl ⟨by rfl, ?_⟩) ?_ ?_
                                    rotate_left
                                    · intro w'
                                      go_simp
                                      with_reducible rfl
                                    rotate_left
                                    · simp only [Act.put, List.setIfInBounds_toArray, List.set_cons_zero, List.set_cons_succ, i64_w, i32_w]
                                      rfl
                                    refine pure_ (i := 4) (N := some 44) (v := ?_) (a' := ?_) #[true, true, true, false, true, false, false, false, false, false, false, false, false, false, false, false, false, false, false, false] rfl rfl (any_of HT_.out (by kernel_rfl)) (fun _ _ _ h => h) (Or.inl ⟨by rfl, ?_⟩) ?_ ?_
                                    rotate_left
                                    · intro w'
                                      go_simp
                                      with_reducible rfl
                                    rotate_left
                                    · simp only [Act.put, List.setIfInBounds_toArray, List.set_cons_zero, List.set_cons_succ, i64_w, i32_w]
                                      rfl
                                    refine pure_ (i := 5) (N := some 45) (v := ?_) (a' := ?_) #[true, true, true, false, true, true, false, false, false, false, false, false, false, false, false, false, false, false, false, false] rfl rfl (any_of HT_.out (by kernel_rfl)) (fun _ _ _ h => h) (Or.inl ⟨by rfl, ?_⟩) ?_ ?_
                                    rotate_left
                                    · intro w'
                                      go_simp
                                      with_reducible rfl
                                    rotate_left
                                    · simp only [Act.put, List.setIfInBounds_toArray, List.set_cons_zero, List.set_cons_succ, i64_w, i32_w]
                                      rfl
                                    refine pure_ (i := 6) (N := some 46) (v := ?_) (a' := ?_) #[true, true, true, false, true, true, true, false, false, false, false, false, false, false, false, false, false, false, false, false] rfl rfl (any_of HT_.out (by kernel_rfl)) (fun _ _ _ h => h) (Or.inl ⟨by rfl, ?_⟩) ?_ ?_
                                    rotate_left
                                    · intro w'
                                      go_simp
                                      with_reducible rfl
                                    rotate_left
                                    · simp only [Act.put, List.setIfInBounds_toArray, List.set_cons_zero, List.set_cons_succ, i64_w, i32_w]
                                      rfl
                                    refine pure_ (i := 7) (N := some 47) (v := ?_) (a' := ?_) #[true, true, true, false, true, true, true, true, false, false, false, false, false, false, false, false, false, false, false, false] rfl rfl (any_of HT_.out (by kernel_rfl)) (fun _ _ _ h => h) (Or.inl ⟨by rfl, ?_⟩) ?_ ?_
                                    rotate_left
                                    · intro w'
                                      go_simp
                                      with_reducible rfl
                                    rotate_left
                                    · simp only [Act.put, List.setIfInBounds_toArray, List.set_cons_zero, List.set_cons_succ, i64_w, i32_w]
                                      rfl
                                    refine pure_ (i := 8) (N := some 48) (v := ?_) (a' := ?_) #[true, true, true, false, true, true, true, true, true, false, false, false, false, false, false, false, false, false, false, false] rfl rfl (any_of HT_.out (by kernel_rfl)) (fun _ _ _ h => h) (Or.inl ⟨by rfl, ?_⟩) ?_ ?_
                                    rotate_left
                                    · intro w'
                                      go_simp
                                      with_reducible rfl
                                    rotate_left
                                    · simp only [Act.put, List.setIfInBounds_toArray, List.set_cons_zero, List.set_cons_succ, i64_w, i32_w]
                                      rfl
                                    refine take_ (i := 3) (N := some 43) (v := ?_) (a' := ?_) #[true, true, true, true, true, true, true, true, true, false, false, false, false, false, false, false, false, false, false, false] rfl rfl (take_ofW HT_.out HW_.out (by kernel_rfl)) (fun _ _ _ h => h) (Or.inl ⟨by rfl, ?_⟩) hHeld ?_ ?_
                                    rotate_left
                                    · intro w' s0
                                      go_simp
                                      with_reducible rfl
                                    rotate_left
                                    · simp only [Act.put, List.setIfInBounds_toArray, List.set_cons_zero, List.set_cons_succ, i64_w, i32_w]
                                      rfl
                                    refine one_ (i := 9) (N := some 49) #[true, true, true, true, true, true, true, true, true, true, false, false, false, false, false, false, false, false, false, false] rfl rfl (one_of HT_.out (by kernel_rfl)) (by decide) (fun K hK => ?_)
                                    refine goes_ Tryz.func49 (by kernel_rfl) rfl #[.int .i64 a0, .slice Ao33 t321.length co33, .int .i64 x24_1, .int .i64 x37_2] (by rfl) rfl rfl (by (try simp only [List.map_toArray, List.map_cons, List.map_nil]); first | done | rfl | (simp only [List.length_drop, List.length_take]; rfl)) ?_
                                    with_reducible refine (spec_qrGiven.calls k2 a0 _ _ t321 x24_1 x37_2 true _ ?side1 ?side2 A26.out).mono ?_
                                    (case side1 => repeat (first | exact (Kd.R_reads' HO_9.out).2.2 | (with_reducible refine Kd.C_alloc ?_ _) | (with_reducible refine Kd.C_drewN ?_ _) | (with_reducible refine Kd.C_drew ?_)))
                                    (case side2 => exact (Kd.R_reads' HO_9.out).2.1)
                                    rintro e w34 ⟨rfl, hb⟩
                                    have HS0_ := (hb.cell (World.block_lt_of_cell? _ _ (hHeld))).trans (hHeld)
                                    refine ⟨_, rfl, ?_⟩
                                    have n0_ := Aside0.mk (Kd.R_below (by (with_reducible repeat (first | apply Kd.R_alloc | apply Kd.R_drewN | apply Kd.R_drew)); exact HO_9.out) hb)
                                    have n1_ := Aside0.mk (Kd.S_below (by (with_reducible repeat (first | apply Kd.S_alloc | apply Kd.S_drewN | apply Kd.S_drew)); exact HO_10.out) hb)
                                    have n2_ := Aside0.mk (Kd.R_below (by (with_reducible repeat (first | apply Kd.R_alloc | apply Kd.R_drewN | apply Kd.R_drew)); exact HL332_0.out) hb)
                                    have n3_ := Aside0.mk (Kd.C_below (by repeat (first | (with_reducible exact HR332_0.out) | (with_reducible refine Kd.C_alloc ?_ _) | (with_reducible refine Kd.C_drewN ?_ _) | (with_reducible refine Kd.C_drew ?_) | exact HR332_0.out)) hb)
                                    have n4_ := Aside0.mk (pw_cell_below hb HX332_0.out)
                                    have n5_ := Aside0.mk (below_step (by repeat (first | (with_reducible first | exact HB.out | apply below_alloc | apply pw_below_drewN | apply below_drew1) | exact HB.out)) hb)
                                    clear HO_9
                                    clear HO_10
                                    clear HL332_0
                                    clear HR332_0
                                    clear HX332_0
                                    clear HB
                                    have HO_9 := n0_
                                    have HO_10 := n1_
                                    have HL332_0 := n2_
                                    have HR332_0 := n3_
                                    have HX332_0 := n4_
                                    have HB := n5_
                                    clear n0_ n1_ n2_ n3_ n4_ n5_
                                    (try clear hb)
                                    (try clear hb2)
                                    (try clear hk)
                                    (try clear hi)
                                    refine hK.out _ _ (HS0_) (fun hHeld => ?_)
                                    clear hK K
                                    refine norm_ (a' := ?_) ?_ ?_
                                    rotate_left
                                    · show Act.put _ (some 49) _ = _
                                      simp only [Act.put, List.setIfInBounds_toArray, List.set_cons_zero, List.set_cons_succ, i64_w, i32_w]
                                      rfl
                                    refine pure_ (i := 10) (N := some 50) (v := ?_) (a' := ?_) #[true, true, true, true, true, true, true, true, true, true, true, false, false, false, false, false, false, false, false, false] rfl rfl (any_of HT_.out (by kernel_rfl)) (fun _ _ _ h => h) (Or.inl ⟨by rfl, ?_⟩) ?_ ?_
                                    rotate_left
                                    · intro w'
                                      go_simp
                                      with_reducible rfl
                                    rotate_left
                                    · simp only [Act.put, List.setIfInBounds_toArray, List.set_cons_zero, List.set_cons_succ, i64_w, i32_w]
                                      rfl
                                    refine pure_ (i := 11) (N := some 51) (v := ?_) (a' := ?_) #[true, true, true, true, true, true, true, true, true, true, true, true, false, false, false, false, false, false, false, false] rfl rfl (any_of HT_.out (by kernel_rfl)) (fun _ _ _ h => h) (Or.inl ⟨by rfl, ?_⟩) ?_ ?_
                                    rotate_left
                                    · intro w'
                                      go_simp
                                      with_reducible rfl
                                    rotate_left
                                    · simp only [Act.put, List.setIfInBounds_toArray, List.set_cons_zero, List.set_cons_succ, i64_w, i32_w]
                                      rfl
                                    refine pure_ (i := 12) (N := some 52) (v := ?_) (a' := ?_) #[true, true, true, true, true, true, true, true, true, true, true, true, true, false, false, false, false, false, false, false] rfl rfl (any_of HT_.out (by kernel_rfl)) (fun _ _ _ h => h) (Or.inl ⟨by rfl, ?_⟩) ?_ ?_
                                    rotate_left
                                    · intro w'
                                      go_simp
                                      with_reducible rfl
                                    rotate_left
                                    · simp only [Act.put, List.setIfInBounds_toArray, List.set_cons_zero, List.set_cons_succ, i64_w, i32_w]
                                      rfl
                                    refine pure_ (i := 13) (N := some 53) (v := ?_) (a' := ?_) #[true, true, true, true, true, true, true, true, true, true, true, true, true, true, false, false, false, false, false, false] rfl rfl (any_of HT_.out (by kernel_rfl)) (fun _ _ _ h => h) (Or.inl ⟨by rfl, ?_⟩) ?_ ?_
                                    rotate_left
                                    · intro w'
                                      go_simp
                                      with_reducible rfl
                                    rotate_left
                                    · simp only [Act.put, List.setIfInBounds_toArray, List.set_cons_zero, List.set_cons_succ, i64_w, i32_w]
                                      rfl
                                    refine pure_ (i := 14) (N := some 54) (v := ?_) (a' := ?_) #[true, true, true, true, true, true, true, true, true, true, true, true, true, true, true, false, false, false, false, false] rfl rfl (any_of HT_.out (by kernel_rfl)) (fun _ _ _ h => h) (Or.inl ⟨by rfl, ?_⟩) ?_ ?_
                                    rotate_left
                                    · intro w'
                                      go_simp
                                      with_reducible rfl
                                    rotate_left
                                    · simp only [Act.put, List.setIfInBounds_toArray, List.set_cons_zero, List.set_cons_succ, i64_w, i32_w]
                                      rfl
                                    refine pure_ (i := 15) (N := some 55) (v := ?_) (a' := ?_) #[true, true, true, true, true, true, true, true, true, true, true, true, true, true, true, true, false, false, false, false] rfl rfl (any_of HT_.out (by kernel_rfl)) (fun _ _ _ h => h) (Or.inl ⟨by rfl, ?_⟩) ?_ ?_
                                    rotate_left
                                    · intro w'
                                      go_simp
                                      with_reducible rfl
                                    rotate_left
                                    · simp only [Act.put, List.setIfInBounds_toArray, List.set_cons_zero, List.set_cons_succ, i64_w, i32_w]
                                      rfl
                                    refine one_ (i := 16) (N := some 56) #[true, true, true, true, true, true, true, true, true, true, true, true, true, true, true, true, true, false, false, false] rfl rfl (one_of HT_.out (by kernel_rfl)) (by decide) (fun K hK => ?_)
                                    refine goes_ Tryz.func50 (by kernel_rfl) rfl #[.int .i64 a0, .int .i64 t320, .slice Ao33 t321.length co33, .int .i64 x24_1, .int .i64 x37_2] (by rfl) rfl rfl (by (try simp only [List.map_toArray, List.map_cons, List.map_nil]); first | done | rfl | (simp only [List.length_drop, List.length_take]; rfl)) ?_
                                    with_reducible refine (spec_qrPattern.calls k2 a0 t320 _ _ t321 x24_1 x37_2 t334 _ ?side1 ?side2 A28.out).mono ?_
                                    (case side1 => repeat (first | exact (Kd.R_reads' HO_9.out).2.2 | (with_reducible refine Kd.C_alloc ?_ _) | (with_reducible refine Kd.C_drewN ?_ _) | (with_reducible refine Kd.C_drew ?_)))
                                    (case side2 => exact (Kd.R_reads' HO_9.out).2.1)
                                    rintro e w35 ⟨rfl, hb⟩
                                    have HS0_ := (hb.cell (World.block_lt_of_cell? _ _ (hHeld))).trans (hHeld)
                                    refine ⟨_, rfl, ?_⟩
                                    have n0_ := Aside0.mk (Kd.R_below (by (with_reducible repeat (first | apply Kd.R_alloc | apply Kd.R_drewN | apply Kd.R_drew)); exact HO_9.out) hb)
                                    have n1_ := Aside0.mk (Kd.S_below (by (with_reducible repeat (first | apply Kd.S_alloc | apply Kd.S_drewN | apply Kd.S_drew)); exact HO_10.out) hb)
                                    have n2_ := Aside0.mk (Kd.R_below (by (with_reducible repeat (first | apply Kd.R_alloc | apply Kd.R_drewN | apply Kd.R_drew)); exact HL332_0.out) hb)
                                    have n3_ := Aside0.mk (Kd.C_below (by repeat (first | (with_reducible exact HR332_0.out) | (with_reducible refine Kd.C_alloc ?_ _) | (with_reducible refine Kd.C_drewN ?_ _) | (with_reducible refine Kd.C_drew ?_) | exact HR332_0.out)) hb)
                                    have n4_ := Aside0.mk (pw_cell_below hb HX332_0.out)
                                    have n5_ := Aside0.mk (below_step (by repeat (first | (with_reducible first | exact HB.out | apply below_alloc | apply pw_below_drewN | apply below_drew1) | exact HB.out)) hb)
                                    clear HO_9
                                    clear HO_10
                                    clear HL332_0
                                    clear HR332_0
                                    clear HX332_0
                                    clear HB
                                    have HO_9 := n0_
                                    have HO_10 := n1_
                                    have HL332_0 := n2_
                                    have HR332_0 := n3_
                                    have HX332_0 := n4_
                                    have HB := n5_
                                    clear n0_ n1_ n2_ n3_ n4_ n5_
                                    (try clear hb)
                                    (try clear hb2)
                                    (try clear hk)
                                    (try clear hi)
                                    have p31 : 0 ≤ (x37_2 : Int) := of_decide_eq_true (by first | (with_reducible assumption) | assumption)
                                    have q31 : (x37_2 : Int) < (((rd_L1 x10_2 x24_1).length : Int) : Int) := of_decide_eq_true (by first | (with_reducible assumption) | assumption)
                                    obtain ⟨go31, co31, eo31, gb31, gl31, cl31, HG31⟩ := Kd.R_form HL332_0.out (by omega)
                                    (first | cases eo31 | (injection eo31 with ea_ en_ ec_; (first | subst ea_ | (injection ea_ with ea_; subst ea_)); subst ec_; clear en_))
                                    have GB31 := Aside0.mk gb31
                                    have GG31 := Aside0.mk HG31
                                    clear gb31 gl31 HG31
                                    obtain ⟨hx31_0, hf31_0⟩ := Kd.R_celln false HL332_0.out (x37_2 : Int) p31 q31
                                    replace p31 := eq_true p31
                                    replace q31 := eq_true q31
                                    have hq36 : (x24_1 : Int) < (x10_2.length : Int) := (by have h_ : (x24_1 : Int) < ((x10_2.length : Int) : Int) := of_decide_eq_true (by first | (with_reducible assumption) | assumption); first | exact h_ | (have e_ := (Kd.S_reads' HO_10.out).1; omega) | simpa only [List.length_set, List.length_set] using h_)
                                    obtain ⟨oki36, ce36, hcl36, hM36, hcc36, hok36, hbk36⟩ := Kd.S_borrow HO_10.out [] (x24_1 : Int) (of_decide_eq_true (by first | (with_reducible assumption) | assumption)) hq36
                                    obtain ⟨ve36_0, rfl, ge36_0⟩ := hM36
                                    have hv36 := hcc36 0 _ rfl
                                    rw [Nat.add_zero, show ((Kd.slice 4 Kd.bool)).sz = 1 from rfl, Nat.mul_one] at hv36
                                    replace hv36 := Option.some.inj (hv36.symm.trans HX332_0.out)
                                    subst hv36
                                    clear hcc36 hcl36
                                    replace ge36_0 := (show Kd.R Kd.bool 4 _ _ _ _ (rd_L1 x10_2 x24_1) from ge36_0)
                                    have HP36 := Kd.R_putg ge36_0 (x37_2 : Int) t334
                                    rw [← Ny335.out] at HP36
                                    have HS36 := hbk36 HP36.2 (fun k_ e_ => by injection e_ with e_; subst e_; exact ge36_0.1 _ rfl) (x' := y335) (Kd.M_row HP36.1)
                                    rw [← Ny337.out] at HS36
                                    have HQ36 := Aside0.mk HS36
                                    clear HP36 HS36 hbk36 hok36
                                    refine hK.out _ _ (HS0_) (fun hHeld => ?_)
                                    clear hK K
                                    refine norm_ (a' := ?_) ?_ ?_
                                    rotate_left
                                    · show Act.put _ (some 56) _ = _
                                      simp only [Act.put, List.setIfInBounds_toArray, List.set_cons_zero, List.set_cons_succ, i64_w, i32_w]
                                      rfl
                                    refine pure_ (i := 17) (N := some 57) (v := ?_) (a' := ?_) #[true, true, true, true, true, true, true, true, true, true, true, true, true, true, true, true, true, true, false, false] rfl rfl (any_of HT_.out (by kernel_rfl)) (fun _ _ _ h => h) (Or.inl ⟨by rfl, ?_⟩) ?_ ?_
                                    rotate_left
                                    · intro w'
                                      go_simp
                                      with_reducible rfl
                                    rotate_left
                                    · simp only [Act.put, List.setIfInBounds_toArray, List.set_cons_zero, List.set_cons_succ, i64_w, i32_w]
                                      rfl
                                    refine pure_ (i := 18) (N := some 58) (v := ?_) (a' := ?_) #[true, true, true, true, true, true, true, true, true, true, true, true, true, true, true, true, true, true, true, false] rfl rfl (any_of HT_.out (by kernel_rfl)) (fun _ _ _ h => h) (Or.inl ⟨by rfl, ?_⟩) ?_ ?_
                                    rotate_left
                                    · intro w'
                                      go_simp
                                      with_reducible rfl
                                    rotate_left
                                    · simp only [Act.put, List.setIfInBounds_toArray, List.set_cons_zero, List.set_cons_succ, i64_w, i32_w]
                                      rfl
                                    refine last_ (i := 19) (N := none) #[true, true, true, true, true, true, true, true, true, true, true, true, true, true, true, true, true, true, true, true] rfl rfl (one_of HT_.out (by kernel_rfl)) (by decide) (fun K hK => ?_)
                                    refine skip_ (w1 := ?_) (by rfl) rfl ?_ ?_
                                    rotate_left
                                    · go_simp
                                      rfl
                                    refine hK.out _ _ ?_
                                    clear hK K
                                    refine done_ (done_of HT_.out (by kernel_rfl)) ?_
                                    try go_wp2
                                    (try simp only [← hl10_2])
                                    go_roundg k2
                                    case measure => have := HK1.out; have := HK2.out; omega
                                    case rel => exact ⟨(y337), (wrap64 (x37_2 + 1)), (by first | rfl | (simp; done) | (simp [*]; done)), H', ⟨by have := HK1.out; have := HK2.out; omega⟩, ⟨by (try simp only [hl10_1]); (try simp only [hl10_2]); (with_reducible repeat (first | apply Kd.R_alloc | apply Kd.R_drewN | apply Kd.R_drew)); exact Kd.R_mono (Kd.R_far (p := ⟨go31, (x37_2 : Int).toNat, none⟩) (Kd.R_types HO_9.out GG31.out (by decide)) (fun _ hk => hk.2) (.bool t334)) (fun _ hk => trivial)⟩, ⟨by (try simp only [hl10_1]); (try simp only [hl10_2]); (with_reducible repeat (first | apply Kd.S_alloc | apply Kd.S_drewN | apply Kd.S_drew)); exact HQ36.out⟩, ⟨by repeat (first | (with_reducible first | exact HB.out | apply below_alloc | apply pw_below_drewN | apply below_drew1 | refine below_set ?_ GB31.out) | exact HB.out)⟩⟩
                                  · rw [if_neg c30] at H
                                    exact absurd H (by simp)
                                · rw [if_neg c29] at H
                                  exact absurd H (by simp)
                              · replace c27 := Bool.eq_false_iff.mpr c27
                                subst c27
                                have H1 : (if 0 ≤ x37_2 then (if x37_2 < ((rd_L1 x10_2 x24_1).length : Int) then (spec_QRPatterns.l1 k2 a0 t319 t320 t321 (x10_2.set (x24_1 : Int).toNat ((rd_L1 x10_2 x24_1).set (x37_2 : Int).toNat false)) x24_1 (y324.length : Int) x24_1 ((rd_L1 y330 x24_1).length : Int) (wrap64 (x37_2 + 1))) else (none)) else (none)) = some r := by rw [if_neg (show ¬ (false = true) by decide)] at H; exact H
                                clear H
                                have H := H1
                                clear H1
                                by_cases c38 : 0 ≤ x37_2
                                · rw [if_pos c38] at H
                                  have c38b0 : decide (0 ≤ x37_2) = true := decide_eq_true c38
                                  clear c38
                                  by_cases c39 : x37_2 < ((rd_L1 x10_2 x24_1).length : Int)
                                  · rw [if_pos c39] at H
                                    have c39b0 : decide (x37_2 < ((rd_L1 x10_2 x24_1).length : Int)) = true := decide_eq_true c39
                                    clear c39
                                    obtain ⟨y338, hy338⟩ : ∃ y_ : List Bool, y_ = ((rd_L1 x10_2 x24_1).set (x37_2 : Int).toNat false) := ⟨_, rfl⟩
                                    replace H : (spec_QRPatterns.l1 k2 a0 t319 t320 t321 (x10_2.set (x24_1 : Int).toNat y338) x24_1 (y324.length : Int) x24_1 ((rd_L1 y330 x24_1).length : Int) (wrap64 (x37_2 + 1))) = some r := by first | (rw [hy338]; with_reducible exact H) | (have H2_ := (Option.bind_some _ _).symm.trans H; rw [hy338]; with_reducible exact H2_) | (have H2_ := (Option.bind_some _ _).symm.trans H; with_reducible exact H2_) | with_reducible exact H | (rw [hy338]; exact H) | exact H
                                    have Ny338 := Aside0.mk hy338
                                    clear hy338
                                    obtain ⟨y340, hy340⟩ : ∃ y_ : List (List Bool), y_ = (x10_2.set (x24_1 : Int).toNat y338) := ⟨_, rfl⟩
                                    replace H : (spec_QRPatterns.l1 k2 a0 t319 t320 t321 y340 x24_1 (y324.length : Int) x24_1 ((rd_L1 y330 x24_1).length : Int) (wrap64 (x37_2 + 1))) = some r := by first | (rw [hy340]; with_reducible exact H) | (have H2_ := (Option.bind_some _ _).symm.trans H; rw [hy340]; with_reducible exact H2_) | (have H2_ := (Option.bind_some _ _).symm.trans H; with_reducible exact H2_) | with_reducible exact H | (rw [hy340]; exact H) | exact H
                                    have Ny340 := Aside0.mk hy340
                                    clear hy340
                                    have H' := Aside0.mk H
                                    clear H
                                    try go_wp2
                                    have n0_ := Aside0.mk (Kd.R_drew HO_9.out)
                                    have n1_ := Aside0.mk (Kd.S_drew HO_10.out)
                                    have n2_ := Aside0.mk (below_drew1 HB.out)
                                    clear HO_9
                                    clear HO_10
                                    clear HB
                                    have HO_9 := n0_
                                    have HO_10 := n1_
                                    have HB := n2_
                                    clear n0_ n1_ n2_
                                    have p332 : 0 ≤ (x24_1 : Int) := of_decide_eq_true (by first | (with_reducible assumption) | assumption)
                                    have q332 : x24_1 < (x10_2.length : Int) := of_decide_eq_true (by first | (with_reducible assumption) | assumption)
                                    obtain ⟨ad332, A332_0, c332_0, e332, hx332_0, hl332_0, hi332_0⟩ := at_L1 (Kd.S_reads' HO_10.out).2.2 x24_1 p332 q332
                                    obtain rfl : (⟨go18, 0, none⟩ : Addr) = ad332 := (by injection e332)
                                    obtain ⟨ce332, hce332, hMe332, hcc332⟩ := Kd.S_get HO_10.out [] x24_1 p332 (by first | exact q332 | exact of_decide_eq_true (by first | (with_reducible assumption) | assumption) | (have e_ := (Kd.S_reads' HO_10.out).1; omega))
                                    obtain ⟨ve332_0, rfl, ge332_0⟩ := hMe332
                                    have hv332_0 := hcc332 0 _ rfl
                                    rw [Nat.add_zero, show ((Kd.slice 4 Kd.bool)).sz = 1 from rfl, Nat.mul_one] at hv332_0
                                    replace hv332_0 := Option.some.inj (hv332_0.symm.trans hx332_0)
                                    rw [hv332_0] at ge332_0
                                    have HL332_0 := Aside0.mk (show Kd.R Kd.bool 4 _ _ _ _ (rd_L1 x10_2 x24_1) from ge332_0)
                                    clear hv332_0 ge332_0
                                    have HX332_0 := Aside0.mk hx332_0
                                    clear hcc332 hce332
                                    (first | simp only [add_plain] at hx332_0 | simp only [add_at] at hx332_0 | simp only [Addr.add, Nat.zero_add] at hx332_0 | skip)
                                    have HR332_0 := Aside0.mk hi332_0
                                    have HC332_0 := Aside0.mk hl332_0
                                    clear hi332_0 hl332_0
                                    replace p332 := eq_true p332
                                    replace q332 := eq_true q332
                                    obtain ⟨Ao42, co42, eo42⟩ := Kd.R_slice HO_9.out
                                    (first | subst eo42 | (injection eo42 with f1_ f2_ f3_; have f4_ := f1_.symm; have f5_ := f3_.symm; clear f1_ f2_ f3_; subst f4_; subst f5_))
                                    refine start_ (n := 20) (S := fun w' => w'.cell? ⟨go18, (x24_1).toNat, none⟩ = some (.slice A332_0 (rd_L1 x10_2 x24_1).length c332_0)) (ds := [19]) #[false, false, false, false, false, false, false, false, false, false, false, false, false, false, false, false, false, false, false, false] (by kernel_rfl) rfl rfl (hx332_0) (fun hHeld => ?_); refine with_tabW spec_QRPatterns.tab12 spec_QRPatterns.bits12 (fun HT_ HW_ => ?_)
                                    generalize wr.drew = w41 at HO_9 HO_10 HB HL332_0 HR332_0 HX332_0 hx332_0 hHeld ⊢
                                    refine pure_ (i := 0) (N := some 40) (v := ?_) (a' := ?_) #[true, false, false, false, false, false, false, false, false, false, false, false, false, false, false, false, false, false, false, false] rfl rfl (any_of HT_.out (by kernel_rfl)) (fun _ _ _ h => h) (Or.inl ⟨by rfl, ?_⟩) ?_ ?_
                                    rotate_left
                                    · intro w'
                                      go_simp
                                      with_reducible rfl
                                    rotate_left
                                    · simp only [Act.put, List.setIfInBounds_toArray, List.set_cons_zero, List.set_cons_succ, i64_w, i32_w]
                                      rfl
                                    refine pure_ (i := 1) (N := some 41) (v := ?_) (a' := ?_) #[true, true, false, false, false, false, false, false, false, false, false, false, false, false, false, false, false, false, false, false] rfl rfl (any_of HT_.out (by kernel_rfl)) (fun _ _ _ h => h) (Or.inl ⟨by rfl, ?_⟩) ?_ ?_
                                    rotate_left
                                    · intro w'
                                      go_simp
                                      with_reducible rfl
                                    rotate_left
                                    · simp only [Act.put, List.setIfInBounds_toArray, List.set_cons_zero, List.set_cons_succ, i64_w, i32_w]
                                      rfl
                                    refine pure_ (i := 2) (N := some 42) (v := ?_) (a' := ?_) #[true, true, true, false, false, false, false, false, false, false, false, false, false, false, false, false, false, false, false, false] rfl rfl (any_of HT_.out (by kernel_rfl)) (fun _ _ _ h => h) (Or.inl ⟨by rfl, ?_⟩) ?_ ?_
                                    rotate_left
                                    · intro w'
                                      go_simp
                                      with_reducible rfl
                                    rotate_left
                                    · simp only [Act.put, List.setIfInBounds_toArray, List.set_cons_zero, List.set_cons_succ, i64_w, i32_w]
                                      rfl
                                    refine pure_ (i := 4) (N := some 44) (v := ?_) (a' := ?_) #[true, true, true, false, true, false, false, false, false, false, false, false, false, false, false, false, false, false, false, false] rfl rfl (any_of HT_.out (by kernel_rfl)) (fun _ _ _ h => h) (Or.inl ⟨by rfl, ?_⟩) ?_ ?_
                                    rotate_left
                                    · intro w'
                                      go_simp
                                      with_reducible rfl
                                    rotate_left
                                    · simp only [Act.put, List.setIfInBounds_toArray, List.set_cons_zero, List.set_cons_succ, i64_w, i32_w]
                                      rfl
                                    refine pure_ (i := 5) (N := some 45) (v := ?_) (a' := ?_) #[true, true, true, false, true, true, false, false, false, false, false, false, false, false, false, false, false, false, false, false] rfl rfl (any_of HT_.out (by kernel_rfl)) (fun _ _ _ h => h) (Or.inl ⟨by rfl, ?_⟩) ?_ ?_
                                    rotate_left
                                    · intro w'
                                      go_simp
                                      with_reducible rfl
                                    rotate_left
                                    · simp only [Act.put, List.setIfInBounds_toArray, List.set_cons_zero, List.set_cons_succ, i64_w, i32_w]
                                      rfl
                                    refine pure_ (i := 6) (N := some 46) (v := ?_) (a' := ?_) #[true, true, true, false, true, true, true, false, false, false, false, false, false, false, false, false, false, false, false, false] rfl rfl (any_of HT_.out (by kernel_rfl)) (fun _ _ _ h => h) (Or.inl ⟨by rfl, ?_⟩) ?_ ?_
                                    rotate_left
                                    · intro w'
                                      go_simp
                                      with_reducible rfl
                                    rotate_left
                                    · simp only [Act.put, List.setIfInBounds_toArray, List.set_cons_zero, List.set_cons_succ, i64_w, i32_w]
                                      rfl
                                    refine pure_ (i := 7) (N := some 47) (v := ?_) (a' := ?_) #[true, true, true, false, true, true, true, true, false, false, false, false, false, false, false, false, false, false, false, false] rfl rfl (any_of HT_.out (by kernel_rfl)) (fun _ _ _ h => h) (Or.inl ⟨by rfl, ?_⟩) ?_ ?_
                                    rotate_left
                                    · intro w'
                                      go_simp
                                      with_reducible rfl
                                    rotate_left
                                    · simp only [Act.put, List.setIfInBounds_toArray, List.set_cons_zero, List.set_cons_succ, i64_w, i32_w]
                                      rfl
                                    refine pure_ (i := 8) (N := some 48) (v := ?_) (a' := ?_) #[true, true, true, false, true, true, true, true, true, false, false, false, false, false, false, false, false, false, false, false] rfl rfl (any_of HT_.out (by kernel_rfl)) (fun _ _ _ h => h) (Or.inl ⟨by rfl, ?_⟩) ?_ ?_
                                    rotate_left
                                    · intro w'
                                      go_simp
                                      with_reducible rfl
                                    rotate_left
                                    · simp only [Act.put, List.setIfInBounds_toArray, List.set_cons_zero, List.set_cons_succ, i64_w, i32_w]
                                      rfl
                                    refine take_ (i := 3) (N := some 43) (v := ?_) (a' := ?_) #[true, true, true, true, true, true, true, true, true, false, false, false, false, false, false, false, false, false, false, false] rfl rfl (take_ofW HT_.out HW_.out (by kernel_rfl)) (fun _ _ _ h => h) (Or.inl ⟨by rfl, ?_⟩) hHeld ?_ ?_
                                    rotate_left
                                    · intro w' s0
                                      go_simp
                                      with_reducible rfl
                                    rotate_left
                                    · simp only [Act.put, List.setIfInBounds_toArray, List.set_cons_zero, List.set_cons_succ, i64_w, i32_w]
                                      rfl
                                    refine one_ (i := 9) (N := some 49) #[true, true, true, true, true, true, true, true, true, true, false, false, false, false, false, false, false, false, false, false] rfl rfl (one_of HT_.out (by kernel_rfl)) (by decide) (fun K hK => ?_)
                                    refine goes_ Tryz.func49 (by kernel_rfl) rfl #[.int .i64 a0, .slice Ao42 t321.length co42, .int .i64 x24_1, .int .i64 x37_2] (by rfl) rfl rfl (by (try simp only [List.map_toArray, List.map_cons, List.map_nil]); first | done | rfl | (simp only [List.length_drop, List.length_take]; rfl)) ?_
                                    with_reducible refine (spec_qrGiven.calls k2 a0 _ _ t321 x24_1 x37_2 false _ ?side1 ?side2 A26.out).mono ?_
                                    (case side1 => repeat (first | exact (Kd.R_reads' HO_9.out).2.2 | (with_reducible refine Kd.C_alloc ?_ _) | (with_reducible refine Kd.C_drewN ?_ _) | (with_reducible refine Kd.C_drew ?_)))
                                    (case side2 => exact (Kd.R_reads' HO_9.out).2.1)
                                    rintro e w43 ⟨rfl, hb⟩
                                    have HS0_ := (hb.cell (World.block_lt_of_cell? _ _ (hHeld))).trans (hHeld)
                                    refine ⟨_, rfl, ?_⟩
                                    have n0_ := Aside0.mk (Kd.R_below (by (with_reducible repeat (first | apply Kd.R_alloc | apply Kd.R_drewN | apply Kd.R_drew)); exact HO_9.out) hb)
                                    have n1_ := Aside0.mk (Kd.S_below (by (with_reducible repeat (first | apply Kd.S_alloc | apply Kd.S_drewN | apply Kd.S_drew)); exact HO_10.out) hb)
                                    have n2_ := Aside0.mk (Kd.R_below (by (with_reducible repeat (first | apply Kd.R_alloc | apply Kd.R_drewN | apply Kd.R_drew)); exact HL332_0.out) hb)
                                    have n3_ := Aside0.mk (Kd.C_below (by repeat (first | (with_reducible exact HR332_0.out) | (with_reducible refine Kd.C_alloc ?_ _) | (with_reducible refine Kd.C_drewN ?_ _) | (with_reducible refine Kd.C_drew ?_) | exact HR332_0.out)) hb)
                                    have n4_ := Aside0.mk (pw_cell_below hb HX332_0.out)
                                    have n5_ := Aside0.mk (below_step (by repeat (first | (with_reducible first | exact HB.out | apply below_alloc | apply pw_below_drewN | apply below_drew1) | exact HB.out)) hb)
                                    clear HO_9
                                    clear HO_10
                                    clear HL332_0
                                    clear HR332_0
                                    clear HX332_0
                                    clear HB
                                    have HO_9 := n0_
                                    have HO_10 := n1_
                                    have HL332_0 := n2_
                                    have HR332_0 := n3_
                                    have HX332_0 := n4_
                                    have HB := n5_
                                    clear n0_ n1_ n2_ n3_ n4_ n5_
                                    (try clear hb)
                                    (try clear hb2)
                                    (try clear hk)
                                    (try clear hi)
                                    have p40 : 0 ≤ (x37_2 : Int) := of_decide_eq_true (by first | (with_reducible assumption) | assumption)
                                    have q40 : (x37_2 : Int) < (((rd_L1 x10_2 x24_1).length : Int) : Int) := of_decide_eq_true (by first | (with_reducible assumption) | assumption)
                                    obtain ⟨go40, co40, eo40, gb40, gl40, cl40, HG40⟩ := Kd.R_form HL332_0.out (by omega)
                                    (first | cases eo40 | (injection eo40 with ea_ en_ ec_; (first | subst ea_ | (injection ea_ with ea_; subst ea_)); subst ec_; clear en_))
                                    have GB40 := Aside0.mk gb40
                                    have GG40 := Aside0.mk HG40
                                    clear gb40 gl40 HG40
                                    obtain ⟨hx40_0, hf40_0⟩ := Kd.R_celln false HL332_0.out (x37_2 : Int) p40 q40
                                    replace p40 := eq_true p40
                                    replace q40 := eq_true q40
                                    have hq44 : (x24_1 : Int) < (x10_2.length : Int) := (by have h_ : (x24_1 : Int) < ((x10_2.length : Int) : Int) := of_decide_eq_true (by first | (with_reducible assumption) | assumption); first | exact h_ | (have e_ := (Kd.S_reads' HO_10.out).1; omega) | simpa only [List.length_set, List.length_set] using h_)
                                    obtain ⟨oki44, ce44, hcl44, hM44, hcc44, hok44, hbk44⟩ := Kd.S_borrow HO_10.out [] (x24_1 : Int) (of_decide_eq_true (by first | (with_reducible assumption) | assumption)) hq44
                                    obtain ⟨ve44_0, rfl, ge44_0⟩ := hM44
                                    have hv44 := hcc44 0 _ rfl
                                    rw [Nat.add_zero, show ((Kd.slice 4 Kd.bool)).sz = 1 from rfl, Nat.mul_one] at hv44
                                    replace hv44 := Option.some.inj (hv44.symm.trans HX332_0.out)
                                    subst hv44
                                    clear hcc44 hcl44
                                    replace ge44_0 := (show Kd.R Kd.bool 4 _ _ _ _ (rd_L1 x10_2 x24_1) from ge44_0)
                                    have HP44 := Kd.R_putg ge44_0 (x37_2 : Int) false
                                    rw [← Ny338.out] at HP44
                                    have HS44 := hbk44 HP44.2 (fun k_ e_ => by injection e_ with e_; subst e_; exact ge44_0.1 _ rfl) (x' := y338) (Kd.M_row HP44.1)
                                    rw [← Ny340.out] at HS44
                                    have HQ44 := Aside0.mk HS44
                                    clear HP44 HS44 hbk44 hok44
                                    refine hK.out _ _ (HS0_) (fun hHeld => ?_)
                                    clear hK K
                                    refine norm_ (a' := ?_) ?_ ?_
                                    rotate_left
                                    · show Act.put _ (some 49) _ = _
                                      simp only [Act.put, List.setIfInBounds_toArray, List.set_cons_zero, List.set_cons_succ, i64_w, i32_w]
                                      rfl
                                    refine pure_ (i := 10) (N := some 50) (v := ?_) (a' := ?_) #[true, true, true, true, true, true, true, true, true, true, true, false, false, false, false, false, false, false, false, false] rfl rfl (any_of HT_.out (by kernel_rfl)) (fun _ _ _ h => h) (Or.inl ⟨by rfl, ?_⟩) ?_ ?_
                                    rotate_left
                                    · intro w'
                                      go_simp
                                      with_reducible rfl
                                    rotate_left
                                    · simp only [Act.put, List.setIfInBounds_toArray, List.set_cons_zero, List.set_cons_succ, i64_w, i32_w]
                                      rfl
                                    refine pure_ (i := 11) (N := some 51) (v := undef) (a' := ?_) #[true, true, true, true, true, true, true, true, true, true, true, true, false, false, false, false, false, false, false, false] rfl rfl (any_of HT_.out (by kernel_rfl)) (fun _ _ _ h => h) (Or.inr ⟨by rfl, rfl⟩) ?_ ?_
                                    rotate_left
                                    · simp only [Act.put, List.setIfInBounds_toArray, List.set_cons_zero, List.set_cons_succ, i64_w, i32_w]
                                      rfl
                                    refine pure_ (i := 12) (N := some 52) (v := undef) (a' := ?_) #[true, true, true, true, true, true, true, true, true, true, true, true, true, false, false, false, false, false, false, false] rfl rfl (any_of HT_.out (by kernel_rfl)) (fun _ _ _ h => h) (Or.inr ⟨by rfl, rfl⟩) ?_ ?_
                                    rotate_left
                                    · simp only [Act.put, List.setIfInBounds_toArray, List.set_cons_zero, List.set_cons_succ, i64_w, i32_w]
                                      rfl
                                    refine pure_ (i := 13) (N := some 53) (v := undef) (a' := ?_) #[true, true, true, true, true, true, true, true, true, true, true, true, true, true, false, false, false, false, false, false] rfl rfl (any_of HT_.out (by kernel_rfl)) (fun _ _ _ h => h) (Or.inr ⟨by rfl, rfl⟩) ?_ ?_
                                    rotate_left
                                    · simp only [Act.put, List.setIfInBounds_toArray, List.set_cons_zero, List.set_cons_succ, i64_w, i32_w]
                                      rfl
                                    refine pure_ (i := 14) (N := some 54) (v := undef) (a' := ?_) #[true, true, true, true, true, true, true, true, true, true, true, true, true, true, true, false, false, false, false, false] rfl rfl (any_of HT_.out (by kernel_rfl)) (fun _ _ _ h => h) (Or.inr ⟨by rfl, rfl⟩) ?_ ?_
                                    rotate_left
                                    · simp only [Act.put, List.setIfInBounds_toArray, List.set_cons_zero, List.set_cons_succ, i64_w, i32_w]
                                      rfl
                                    refine pure_ (i := 15) (N := some 55) (v := undef) (a' := ?_) #[true, true, true, true, true, true, true, true, true, true, true, true, true, true, true, true, false, false, false, false] rfl rfl (any_of HT_.out (by kernel_rfl)) (fun _ _ _ h => h) (Or.inr ⟨by rfl, rfl⟩) ?_ ?_
                                    rotate_left
                                    · simp only [Act.put, List.setIfInBounds_toArray, List.set_cons_zero, List.set_cons_succ, i64_w, i32_w]
                                      rfl
                                    refine pure_ (i := 16) (N := some 56) (v := undef) (a' := ?_) #[true, true, true, true, true, true, true, true, true, true, true, true, true, true, true, true, true, false, false, false] rfl rfl (any_of HT_.out (by kernel_rfl)) (fun _ _ _ h => h) (Or.inr ⟨by rfl, rfl⟩) ?_ ?_
                                    rotate_left
                                    · simp only [Act.put, List.setIfInBounds_toArray, List.set_cons_zero, List.set_cons_succ, i64_w, i32_w]
                                      rfl
                                    refine pure_ (i := 17) (N := some 57) (v := ?_) (a' := ?_) #[true, true, true, true, true, true, true, true, true, true, true, true, true, true, true, true, true, true, false, false] rfl rfl (any_of HT_.out (by kernel_rfl)) (fun _ _ _ h => h) (Or.inl ⟨by rfl, ?_⟩) ?_ ?_
                                    rotate_left
                                    · intro w'
                                      go_simp
                                      with_reducible rfl
                                    rotate_left
                                    · simp only [Act.put, List.setIfInBounds_toArray, List.set_cons_zero, List.set_cons_succ, i64_w, i32_w]
                                      rfl
                                    refine pure_ (i := 18) (N := some 58) (v := ?_) (a' := ?_) #[true, true, true, true, true, true, true, true, true, true, true, true, true, true, true, true, true, true, true, false] rfl rfl (any_of HT_.out (by kernel_rfl)) (fun _ _ _ h => h) (Or.inl ⟨by rfl, ?_⟩) ?_ ?_
                                    rotate_left
                                    · intro w'
                                      go_simp
                                      with_reducible rfl
                                    rotate_left
                                    · simp only [Act.put, List.setIfInBounds_toArray, List.set_cons_zero, List.set_cons_succ, i64_w, i32_w]
                                      rfl
                                    refine last_ (i := 19) (N := none) #[true, true, true, true, true, true, true, true, true, true, true, true, true, true, true, true, true, true, true, true] rfl rfl (one_of HT_.out (by kernel_rfl)) (by decide) (fun K hK => ?_)
                                    refine skip_ (w1 := ?_) (by rfl) rfl ?_ ?_
                                    rotate_left
                                    · go_simp
                                      rfl
                                    refine hK.out _ _ ?_
                                    clear hK K
                                    refine done_ (done_of HT_.out (by kernel_rfl)) ?_
                                    try go_wp2
                                    (try simp only [← hl10_2])
                                    go_roundg k2
                                    case measure => have := HK1.out; have := HK2.out; omega
                                    case rel => exact ⟨(y340), (wrap64 (x37_2 + 1)), (by first | rfl | (simp; done) | (simp [*]; done)), H', ⟨by have := HK1.out; have := HK2.out; omega⟩, ⟨by (try simp only [hl10_1]); (try simp only [hl10_2]); (with_reducible repeat (first | apply Kd.R_alloc | apply Kd.R_drewN | apply Kd.R_drew)); exact Kd.R_mono (Kd.R_far (p := ⟨go40, (x37_2 : Int).toNat, none⟩) (Kd.R_types HO_9.out GG40.out (by decide)) (fun _ hk => hk.2) (.bool false)) (fun _ hk => trivial)⟩, ⟨by (try simp only [hl10_1]); (try simp only [hl10_2]); (with_reducible repeat (first | apply Kd.S_alloc | apply Kd.S_drewN | apply Kd.S_drew)); exact HQ44.out⟩, ⟨by repeat (first | (with_reducible first | exact HB.out | apply below_alloc | apply pw_below_drewN | apply below_drew1 | refine below_set ?_ GB40.out) | exact HB.out)⟩⟩
                                  · rw [if_neg c39] at H
                                    exact absurd H (by simp)
                                · rw [if_neg c38] at H
                                  exact absurd H (by simp)
                            · rw [if_neg c25] at H
                              exact absurd H (by simp)
                          · rw [if_neg c24] at H
                            exact absurd H (by simp)
                        · rw [if_neg c23] at H
                          have c23b0 : decide (x37_2 < ((rd_L1 y330 x24_1).length : Int)) = false := decide_eq_false c23
                          clear c23
                          have H' := Aside0.mk H
                          clear H
                          go_wp2
                          (try simp only [← hl10_1, ← hl10_2])
                          go_roundg k2
                          case measure => have := HK1.out; have := HK2.out; omega
                          case rel => exact ⟨(x10_2), (wrap64 (x24_1 + 1)), (by first | rfl | (simp; done) | (simp [*]; done)), H', ⟨by have := HK1.out; have := HK2.out; omega⟩, ⟨by (try simp only [hl10_1]); (try simp only [hl10_2]); (with_reducible repeat (first | apply Kd.R_alloc | apply Kd.R_drewN | apply Kd.R_drew)); exact HO_9.out⟩, ⟨by (try simp only [hl10_1]); (try simp only [hl10_2]); (with_reducible repeat (first | apply Kd.S_alloc | apply Kd.S_drewN | apply Kd.S_drew)); exact HO_10.out⟩, ⟨by repeat (first | (with_reducible first | exact HB.out | apply below_alloc | apply pw_below_drewN | apply below_drew1) | exact HB.out)⟩⟩
                  · rw [if_neg c17] at H
                    exact absurd H (by simp)
                · rw [if_neg c16] at H
                  exact absurd H (by simp)
              · rw [if_neg c15] at H
                exact absurd H (by simp)
            · rw [if_neg c14] at H
              exact absurd H (by simp)
          · rw [if_neg c13] at H
            have c13b0 : decide (x24_1 < (y324.length : Int)) = false := decide_eq_false c13
            have c13b9 : decide (x24_1 < (x10_1.length : Int)) = false := by first | assumption | (have e_ := hl10_1; first | (rw [e_]; exact c13b0) | (rw [← e_]; exact c13b0) | (have c_ := of_decide_eq_false c13b0; exact decide_eq_false (by omega)))
            clear c13
            obtain rfl := Option.some.inj H
            go_wp2
            go_ret
            exact ⟨_, by first | rfl | (simp [errW_none, errW_some] <;> rfl) | (simp [*, errW_none, errW_some] <;> rfl), by (with_reducible repeat (first | apply Kd.S_alloc | apply Kd.S_drewN | apply Kd.S_drew)); exact HO_10.out, by repeat (first | (with_reducible first | exact HB.out | apply below_alloc | apply pw_below_drewN | apply below_drew1) | exact HB.out)⟩
    · rw [if_neg c8] at H
      exact absurd H (by simp)
  · rw [if_neg c7] at H
    exact absurd H (by simp)

/-! ### laws_zzFits7: function 9 -/
def laws_zzFits7.l0 : Nat → List (List Bool) → Int → Int → Option (Bool)
  | 0, _, _, _ => none
  | k + 1, x8, x9, x10 => if x10 < x9 then (if 0 ≤ x10 then (if x10 < (x8.length : Int) then (if ((rd_L1 x8 x10).length : Int) > 2147483647 then (some false) else (laws_zzFits7.l0 k x8 x9 (wrap64 (x10 + 1)))) else (none)) else (none)) else (some true)
def laws_zzFits7.f (k : Nat) (l0 : List (List Bool)) : Option (Bool) := if (l0.length : Int) > 2147483647 then (some false) else (laws_zzFits7.l0 k l0 (l0.length : Int) 0)
theorem laws_zzFits7.mono_l : ∀ k, (∀ y0 y1 y2, LeO (laws_zzFits7.l0 k y0 y1 y2) (laws_zzFits7.l0 (k + 1) y0 y1 y2))
  | 0 => fun _ _ _ r h => by simp [laws_zzFits7.l0] at h
  | k + 1 => by
    have ih0 := laws_zzFits7.mono_l k
    · intro y0 y1 y2
      unfold laws_zzFits7.l0
      repeat' first
      | (with_reducible exact ih0 _ _ _)
      | (with_reducible exact LeO.refl _)
      | (with_reducible exact LeO.none _)
      | (with_reducible refine LeO.ite ?_ ?_)
      | (with_reducible refine LeO.bind ?_ (fun _ => ?_))
      | exact ih0 _ _ _
      | exact LeO.none _
      | refine LeO.ite ?_ ?_
      | refine LeO.bind ?_ (fun _ => ?_)
theorem laws_zzFits7.mono : ∀ a0 k, LeO (laws_zzFits7.f k a0) (laws_zzFits7.f (k + 1) a0) := by
  intro a0 k
  have ih0 := laws_zzFits7.mono_l k
  unfold laws_zzFits7.f
  repeat' first
      | (with_reducible exact ih0 _ _ _)
      | (with_reducible exact LeO.refl _)
      | (with_reducible exact LeO.none _)
      | (with_reducible refine LeO.ite ?_ ?_)
      | (with_reducible refine LeO.bind ?_ (fun _ => ?_))
      | exact ih0 _ _ _
      | exact LeO.none _
      | refine LeO.ite ?_ ?_
      | refine LeO.bind ?_ (fun _ => ?_)
set_option maxHeartbeats 8000000 in
set_option maxRecDepth 100000 in
theorem laws_zzFits7.calls (k : Nat) (A0 : Option Addr) (c0 : Nat) (l0 : List (List Bool)) (r : Bool) (w : World) (hr0 : Kd.C (Kd.slice 4 Kd.bool) w A0 l0.length l0) (hc0 : l0.length ≤ c0) (h : laws_zzFits7.f k l0 = some r) :
    Calls Tryz.prog 9 #[.slice A0 l0.length c0] w fun e w' => e = .returned (.bool r) ∧ Drawn0 w w' := by
  have HR0 := Aside0.mk hr0
  have HC0 := Aside0.mk hc0
  clear hr0 hc0
  have H : (if (l0.length : Int) > 2147483647 then (some false) else (laws_zzFits7.l0 k l0 (l0.length : Int) 0)) = some r := h
  clear h
  by_cases c2 : (l0.length : Int) > 2147483647
  · rw [if_pos c2] at H
    have c2b0 : decide (2147483647 < (l0.length : Int)) = true := decide_eq_true c2
    have c2b1 : decide (2147483647 < l0.length) = true := decide_eq_true (by omega)
    clear c2
    obtain rfl := Option.some.inj H
    go_enter Tryz.func9, Tryz.ntmps9
    go_wp2
    go_ret
    exact ⟨by first | rfl | (simp; done) | (simp [*]; done), by repeat (first | exact Drawn0.refl _ | apply Drawn0.step)⟩
  · rw [if_neg c2] at H
    have c2b0 : decide (2147483647 < (l0.length : Int)) = false := decide_eq_false c2
    have c2b1 : decide (2147483647 < l0.length) = false := decide_eq_false (by omega)
    clear c2
    have H' := Aside0.mk H
    clear H
    go_enter Tryz.func9, Tryz.ntmps9
    go_wp2
    go_loopg [10] k (fun kq v10 w' => ∃ (x10_1 : Int), v10 = .int .i64 x10_1 ∧ Aside0 (laws_zzFits7.l0 kq l0 (l0.length : Int) x10_1 = some r) ∧ Aside0 (kq ≤ k) ∧ Drawn0 w w')
    case atStart => exact ⟨(0), (by first | rfl | (simp; done) | (simp [*]; done)), H', ⟨Nat.le_refl _⟩, by repeat (first | exact Drawn0.refl _ | apply Drawn0.step)⟩
    case round =>
      clear H'
      try clear c2
      try clear c2b0
      try clear c2b1
      try clear p2
      obtain ⟨x10_1, rfl, HA, HK1, ⟨m1, rfl⟩⟩ := hrel
      cases gk with
      | zero => exact absurd HA.out (by simp [laws_zzFits7.l0])
      | succ k1 =>
        have H := HA.out
        clear HA
        simp only [laws_zzFits7.l0] at H
        by_cases c3 : x10_1 < (l0.length : Int)
        · rw [if_pos c3] at H
          have c3b0 : decide (x10_1 < (l0.length : Int)) = true := decide_eq_true c3
          clear c3
          by_cases c4 : 0 ≤ x10_1
          · rw [if_pos c4] at H
            have c4b0 : decide (0 ≤ x10_1) = true := decide_eq_true c4
            clear c4
            by_cases c5 : x10_1 < (l0.length : Int)
            · rw [if_pos c5] at H
              have c5b0 : decide (x10_1 < (l0.length : Int)) = true := decide_eq_true c5
              clear c5
              by_cases c6 : ((rd_L1 l0 x10_1).length : Int) > 2147483647
              · rw [if_pos c6] at H
                have c6b0 : decide (2147483647 < ((rd_L1 l0 x10_1).length : Int)) = true := decide_eq_true c6
                have c6b1 : decide (2147483647 < (rd_L1 l0 x10_1).length) = true := decide_eq_true (by omega)
                clear c6
                obtain rfl := Option.some.inj H
                have p101 : 0 ≤ (x10_1 : Int) := of_decide_eq_true (by first | (with_reducible assumption) | assumption)
                have q101 : x10_1 < (l0.length : Int) := of_decide_eq_true (by first | (with_reducible assumption) | assumption)
                obtain ⟨ad101, A101_0, c101_0, e101, hx101_0, hl101_0, hi101_0⟩ := at_L1 HR0.out x10_1 p101 q101
                cases e101
                have HR101_0 := Aside0.mk hi101_0
                have HC101_0 := Aside0.mk hl101_0
                clear hi101_0 hl101_0
                replace p101 := eq_true p101
                replace q101 := eq_true q101
                go_wp2
                go_ret
                exact ⟨by first | rfl | (simp; done) | (simp [*]; done), by repeat (first | exact Drawn0.refl _ | apply Drawn0.step)⟩
              · rw [if_neg c6] at H
                have c6b0 : decide (2147483647 < ((rd_L1 l0 x10_1).length : Int)) = false := decide_eq_false c6
                have c6b1 : decide (2147483647 < (rd_L1 l0 x10_1).length) = false := decide_eq_false (by omega)
                clear c6
                have H' := Aside0.mk H
                clear H
                have p101 : 0 ≤ (x10_1 : Int) := of_decide_eq_true (by first | (with_reducible assumption) | assumption)
                have q101 : x10_1 < (l0.length : Int) := of_decide_eq_true (by first | (with_reducible assumption) | assumption)
                obtain ⟨ad101, A101_0, c101_0, e101, hx101_0, hl101_0, hi101_0⟩ := at_L1 HR0.out x10_1 p101 q101
                cases e101
                have HR101_0 := Aside0.mk hi101_0
                have HC101_0 := Aside0.mk hl101_0
                clear hi101_0 hl101_0
                replace p101 := eq_true p101
                replace q101 := eq_true q101
                go_wp2
                go_roundg k1
                case measure => have := HK1.out; omega
                case rel => exact ⟨(wrap64 (x10_1 + 1)), (by first | rfl | (simp; done) | (simp [*]; done)), H', ⟨by have := HK1.out; omega⟩, by repeat (first | exact Drawn0.refl _ | apply Drawn0.step)⟩
            · rw [if_neg c5] at H
              exact absurd H (by simp)
          · rw [if_neg c4] at H
            exact absurd H (by simp)
        · rw [if_neg c3] at H
          have c3b0 : decide (x10_1 < (l0.length : Int)) = false := decide_eq_false c3
          clear c3
          obtain rfl := Option.some.inj H
          go_wp2
          go_ret
          exact ⟨by first | rfl | (simp; done) | (simp [*]; done), by repeat (first | exact Drawn0.refl _ | apply Drawn0.step)⟩

/-! ### laws_qrSquare: function 10 -/
mutual
def laws_qrSquare.l0 : Nat → List (List Bool) → Int → List (List Bool) → Int → Int → Option ((List (List Bool)))
  | 0, _, _, _, _, _ => none
  | k + 1, x0, x3, x4, x13, x14 => if x14 < x13 then (if 0 ≤ x3 then (if (x3 : Int).toNat ≤ 281474976710656 then (if 0 ≤ x14 then (if x14 < (x4.length : Int) then (laws_qrSquare.l1 k x0 x3 (x4.set (x14 : Int).toNat (List.replicate (x3 : Int).toNat false)) x14 0 x13 x14) else (none)) else (none)) else (none)) else (none)) else (some x4)
def laws_qrSquare.l1 : Nat → List (List Bool) → Int → List (List Bool) → Int → Int → Int → Int → Option ((List (List Bool)))
  | 0, _, _, _, _, _, _, _ => none
  | k + 1, x0, x3, x4, x5, x6, x13, x14 => if x6 < x3 then (if 0 ≤ x5 then (if x5 < (x0.length : Int) then (if x6 < ((rd_L1 x0 x5).length : Int) then (if x5 < (x4.length : Int) then (if 0 ≤ x6 then (if x6 < ((rd_L1 x4 x5).length : Int) then (laws_qrSquare.l1 k x0 x3 (x4.set (x5 : Int).toNat ((rd_L1 x4 x5).set (x6 : Int).toNat (rdOf false (rd_L1 x0 x5) x6))) x5 (wrap64 (x6 + 1)) x13 x14) else (none)) else (none)) else (none)) else (laws_qrSquare.l0 k x0 x3 x4 x13 (wrap64 (x14 + 1)))) else (none)) else (none)) else (laws_qrSquare.l0 k x0 x3 x4 x13 (wrap64 (x14 + 1)))
end
def laws_qrSquare.f (k : Nat) (l0 : List (List Bool)) : Option ((List (List Bool))) := if 0 ≤ (mn (l0.length : Int) 60) then (if (mn (l0.length : Int) 60 : Int).toNat ≤ 11728124029610 then ((some (List.replicate (mn (l0.length : Int) 60 : Int).toNat [] : List (List Bool))).bind fun y102 => (laws_qrSquare.l0 k l0 (mn (l0.length : Int) 60) y102 (y102.length : Int) 0)) else (none)) else (none)
theorem laws_qrSquare.mono_l : ∀ k, (∀ y0 y1 y2 y3 y4, LeO (laws_qrSquare.l0 k y0 y1 y2 y3 y4) (laws_qrSquare.l0 (k + 1) y0 y1 y2 y3 y4)) ∧ (∀ y0 y1 y2 y3 y4 y5 y6, LeO (laws_qrSquare.l1 k y0 y1 y2 y3 y4 y5 y6) (laws_qrSquare.l1 (k + 1) y0 y1 y2 y3 y4 y5 y6))
  | 0 => ⟨fun _ _ _ _ _ r h => by simp [laws_qrSquare.l0] at h, fun _ _ _ _ _ _ _ r h => by simp [laws_qrSquare.l1] at h⟩
  | k + 1 => by
    obtain ⟨ih0, ih1⟩ := laws_qrSquare.mono_l k
    refine ⟨?_, ?_⟩
    · intro y0 y1 y2 y3 y4
      unfold laws_qrSquare.l0
      repeat' first
      | (with_reducible exact ih0 _ _ _ _ _)
      | (with_reducible exact ih1 _ _ _ _ _ _ _)
      | (with_reducible exact LeO.refl _)
      | (with_reducible exact LeO.none _)
      | (with_reducible refine LeO.ite ?_ ?_)
      | (with_reducible refine LeO.bind ?_ (fun _ => ?_))
      | exact ih0 _ _ _ _ _
      | exact ih1 _ _ _ _ _ _ _
      | exact LeO.none _
      | refine LeO.ite ?_ ?_
      | refine LeO.bind ?_ (fun _ => ?_)
    · intro y0 y1 y2 y3 y4 y5 y6
      unfold laws_qrSquare.l1
      repeat' first
      | (with_reducible exact ih0 _ _ _ _ _)
      | (with_reducible exact ih1 _ _ _ _ _ _ _)
      | (with_reducible exact LeO.refl _)
      | (with_reducible exact LeO.none _)
      | (with_reducible refine LeO.ite ?_ ?_)
      | (with_reducible refine LeO.bind ?_ (fun _ => ?_))
      | exact ih0 _ _ _ _ _
      | exact ih1 _ _ _ _ _ _ _
      | exact LeO.none _
      | refine LeO.ite ?_ ?_
      | refine LeO.bind ?_ (fun _ => ?_)
theorem laws_qrSquare.mono : ∀ a0 k, LeO (laws_qrSquare.f k a0) (laws_qrSquare.f (k + 1) a0) := by
  intro a0 k
  obtain ⟨ih0, ih1⟩ := laws_qrSquare.mono_l k
  unfold laws_qrSquare.f
  repeat' first
      | (with_reducible exact ih0 _ _ _ _ _)
      | (with_reducible exact ih1 _ _ _ _ _ _ _)
      | (with_reducible exact LeO.refl _)
      | (with_reducible exact LeO.none _)
      | (with_reducible refine LeO.ite ?_ ?_)
      | (with_reducible refine LeO.bind ?_ (fun _ => ?_))
      | exact ih0 _ _ _ _ _
      | exact ih1 _ _ _ _ _ _ _
      | exact LeO.none _
      | refine LeO.ite ?_ ?_
      | refine LeO.bind ?_ (fun _ => ?_)
def laws_qrSquare.T10 : Bool × List (List Nat × List Nat) := (true, [([], []), ([], []), ([0, 1], [0, 1]), ([2], [2]), ([], []), ([], []), ([], []), ([5, 6], [5, 6]), ([7], [7]), ([], []), ([8, 9], [8, 9]), ([10], [10]), ([3, 4, 0, 1, 2, 3, 4, 5, 6, 7, 8, 9, 10, 11], [3, 4]), ([12, 11, 0, 1, 2, 3, 4, 5, 6, 7, 8, 9, 10, 11], [11, 12])])
def laws_qrSquare.B10 : List Nat := [0, 0, 3, 7, 0, 0, 0, 96, 224, 0, 992, 2016, 4095, 8191]
theorem laws_qrSquare.tab10 : rtab .any (opsOf Tryz.f10 10) = laws_qrSquare.T10 := by kernel_rfl
theorem laws_qrSquare.bits10 : waitsOk laws_qrSquare.T10.2 laws_qrSquare.B10 = true := by kernel_rfl
set_option maxHeartbeats 8000000 in
set_option maxRecDepth 100000 in
theorem laws_qrSquare.calls (k : Nat) (A0 : Option Addr) (c0 : Nat) (l0 : List (List Bool)) (r : List (List Bool)) (w : World) (hr0 : Kd.C (Kd.slice 4 Kd.bool) w A0 l0.length l0) (hc0 : l0.length ≤ c0) (h : laws_qrSquare.f k l0 = some r) :
    Calls Tryz.prog 10 #[.slice A0 l0.length c0] w fun e w' => ∃ v0_ : Value, e = .returned (v0_) ∧ Kd.S (Kd.slice 4 Kd.bool) 45 w' w.heap.size (fun _ => True) v0_ r ∧ Below w.heap.size w w' := by
  have HR0 := Aside0.mk hr0
  have HC0 := Aside0.mk hc0
  clear hr0 hc0
  have HB := Aside0.mk (Below.refl w.heap.size w)
  have H : (if 0 ≤ (mn (l0.length : Int) 60) then (if (mn (l0.length : Int) 60 : Int).toNat ≤ 11728124029610 then ((some (List.replicate (mn (l0.length : Int) 60 : Int).toNat [] : List (List Bool))).bind fun y102 => (laws_qrSquare.l0 k l0 (mn (l0.length : Int) 60) y102 (y102.length : Int) 0)) else (none)) else (none)) = some r := h
  clear h
  obtain ⟨ji2, hji2⟩ : ∃ j_ : Int, (mn (l0.length : Int) 60) = j_ := ⟨_, rfl⟩
  replace H : (if 0 ≤ (ji2) then (if (ji2 : Int).toNat ≤ 11728124029610 then ((some (List.replicate (ji2 : Int).toNat [] : List (List Bool))).bind fun y102 => (laws_qrSquare.l0 k l0 ji2 y102 (y102.length : Int) 0)) else (none)) else (none)) = some r := by first | (rw [hji2] at H; exact H) | (simp only [hji2] at H ⊢; exact H)
  (try (have hji2h : ji2 ≤ 60 := by (rw [← hji2]; unfold mn; (repeat' split) <;> omega)))
  (try (have hji2g : ji2 ≤ 64 := by omega))
  (try (have hji2l : 0 ≤ ji2 := by (rw [← hji2]; unfold mn; (repeat' split) <;> omega)))
  (try (have hji2m : 0 ≤ ji2 := by omega))
  have hji2_ : (if 60 < (l0.length : Int) then 60 else (l0.length : Int)) = ji2 := hji2
  by_cases c3 : 0 ≤ (ji2)
  · rw [if_pos c3] at H
    have c3b0 := eq_true c3
    have c3b1 : decide (0 ≤ (ji2)) = true := decide_eq_true c3
    clear c3
    by_cases c4 : (ji2 : Int).toNat ≤ 11728124029610
    · rw [if_pos c4] at H
      have c4b0 := eq_true c4
      have c4b1 : decide ((ji2 : Int).toNat ≤ 11728124029610) = true := decide_eq_true c4
      clear c4
      obtain ⟨y102, hy102⟩ : ∃ y_ : List (List Bool), y_ = (List.replicate (ji2 : Int).toNat []) := ⟨_, rfl⟩
      replace H : (laws_qrSquare.l0 k l0 ji2 y102 (y102.length : Int) 0) = some r := by first | (rw [hy102]; with_reducible exact H) | (have H2_ := (Option.bind_some _ _).symm.trans H; rw [hy102]; with_reducible exact H2_) | (have H2_ := (Option.bind_some _ _).symm.trans H; with_reducible exact H2_) | with_reducible exact H | (rw [hy102]; exact H) | exact H
      have Ny102 := Aside0.mk hy102
      clear hy102
      have H' := Aside0.mk H
      clear H
      go_enter Tryz.func10, Tryz.ntmps10
      go_wp2_with (first | ((with_reducible refine gate_dst (N := 11) rfl ?_); (try (refine gate_guard (by rfl) ?_; dsimp only)); refine Kd.S_make (Kd.slice 4 Kd.bool) _ 45 rfl (N := 11) rfl 22 _ _ rfl ji2 rfl rfl Tryz.underlying22 (.slice none 0 0) 24 info45 rfl (by decide) (by omega) [] (ok := fun _ => True) (okp := fun _ => True) ⟨_, rfl, Kd.R_nil _ _ _ _ _⟩ (fun _ hk => hk) trivial (of_decide_eq_true (by first | (with_reducible assumption) | assumption)) (Nat.le_trans (Nat.mul_le_mul_right _ (of_decide_eq_true (by first | (with_reducible assumption) | assumption) : ji2.toNat ≤ 11728124029610)) (by omega)) (Below.refl _ _) (Nat.le_refl _) ?_; intro v103 w5 ho6 hb hg_ hnew_; clear hg_ hnew_; (first | rw [← Ny102.out] at ho6 | (simp only [Int.reduceToNat] at ho6; rw [← Ny102.out] at ho6)); have n0_ := Aside0.mk (Kd.S_lower ho6 (below_size (by repeat (first | (with_reducible first | exact HB.out | apply below_alloc | apply pw_below_drewN | apply below_drew1) | exact HB.out)))); have n1_ := Aside0.mk (below_step (by repeat (first | (with_reducible first | exact HB.out | apply below_alloc | apply pw_below_drewN | apply below_drew1) | exact HB.out)) hb); clear HB; have HO104 := n0_; have HB := n1_; clear n0_ n1_; clear hb ho6; obtain ⟨Ao7, co7, eo7⟩ := Kd.S_slice HO104.out; subst eo7))
      go_loopg [14] k (fun kq v14 w' => ∃ (x4_1 : List (List Bool)) (x14_1 : Int), v14 = .int .i64 x14_1 ∧ Aside0 (laws_qrSquare.l0 kq l0 ji2 x4_1 (y102.length : Int) x14_1 = some r) ∧ Aside0 (kq ≤ k) ∧ Aside0 (Kd.S (Kd.slice 4 Kd.bool) 45 w' w.heap.size (fun _ => True) (.slice Ao7 y102.length co7) x4_1) ∧ Aside0 (Below w.heap.size w w'))
      case atStart => exact ⟨(y102), (0), (by first | rfl | (simp; done) | (simp [*]; done)), H', ⟨Nat.le_refl _⟩, ⟨by (with_reducible repeat (first | apply Kd.S_alloc | apply Kd.S_drewN | apply Kd.S_drew)); exact HO104.out⟩, ⟨by repeat (first | (with_reducible first | exact HB.out | apply below_alloc | apply pw_below_drewN | apply below_drew1) | exact HB.out)⟩⟩
      case round =>
        clear H'
        try clear c1
        try clear p2
        try clear c3
        try clear c3b0
        try clear c3b1
        try clear c4
        try clear c4b0
        try clear c4b1
        obtain ⟨x4_1, x14_1, rfl, HA, HK1, HO_4, HB⟩ := hrel
        have hl4_1 := (Kd.S_reads' HO_4.out).1
        rw [hl4_1] at HO_4
        (try simp only [hl4_1])
        cases gk with
        | zero => exact absurd HA.out (by simp [laws_qrSquare.l0])
        | succ k1 =>
          have H := HA.out
          clear HA
          simp only [laws_qrSquare.l0] at H
          by_cases c8 : x14_1 < (y102.length : Int)
          · rw [if_pos c8] at H
            have c8b0 : decide (x14_1 < (y102.length : Int)) = true := decide_eq_true c8
            clear c8
            by_cases c9 : 0 ≤ ji2
            · rw [if_pos c9] at H
              have c9b0 := eq_true c9
              have c9b1 : decide (0 ≤ ji2) = true := decide_eq_true c9
              clear c9
              by_cases c10 : (ji2 : Int).toNat ≤ 281474976710656
              · rw [if_pos c10] at H
                have c10b0 := eq_true c10
                have c10b1 : decide ((ji2 : Int).toNat ≤ 281474976710656) = true := decide_eq_true c10
                clear c10
                obtain ⟨y105, hy105⟩ : ∃ y_ : List Bool, y_ = (List.replicate (ji2 : Int).toNat false) := ⟨_, rfl⟩
                replace H : (if 0 ≤ x14_1 then (if x14_1 < (x4_1.length : Int) then (laws_qrSquare.l1 k1 l0 ji2 (x4_1.set (x14_1 : Int).toNat y105) x14_1 0 (y102.length : Int) x14_1) else (none)) else (none)) = some r := by first | (rw [hy105]; with_reducible exact H) | (have H2_ := (Option.bind_some _ _).symm.trans H; rw [hy105]; with_reducible exact H2_) | (have H2_ := (Option.bind_some _ _).symm.trans H; with_reducible exact H2_) | with_reducible exact H | (rw [hy105]; exact H) | exact H
                have Ny105 := Aside0.mk hy105
                clear hy105
                by_cases c11 : 0 ≤ x14_1
                · rw [if_pos c11] at H
                  have c11b0 : decide (0 ≤ x14_1) = true := decide_eq_true c11
                  clear c11
                  by_cases c12 : x14_1 < (x4_1.length : Int)
                  · rw [if_pos c12] at H
                    have c12b0 : decide (x14_1 < (x4_1.length : Int)) = true := decide_eq_true c12
                    clear c12
                    obtain ⟨y108, hy108⟩ : ∃ y_ : List (List Bool), y_ = (x4_1.set (x14_1 : Int).toNat y105) := ⟨_, rfl⟩
                    replace H : (laws_qrSquare.l1 k1 l0 ji2 y108 x14_1 0 (y102.length : Int) x14_1) = some r := by first | (rw [hy108]; with_reducible exact H) | (have H2_ := (Option.bind_some _ _).symm.trans H; rw [hy108]; with_reducible exact H2_) | (have H2_ := (Option.bind_some _ _).symm.trans H; with_reducible exact H2_) | with_reducible exact H | (rw [hy108]; exact H) | exact H
                    have Ny108 := Aside0.mk hy108
                    clear hy108
                    have H' := Aside0.mk H
                    clear H
                    go_wp2_with (first | ((with_reducible refine gate_dst (N := 20) rfl ?_); (try (refine gate_guard (by rfl) ?_; dsimp only)); refine Kd.R_make Kd.bool _ 4 rfl (N := 20) rfl 45 _ _ rfl ji2 rfl rfl Tryz.underlying45 (.bool false) 1 info4 rfl (by decide) (by omega) false (ok := fun _ => True) (okp := fun _ => True) rfl (fun _ hk => hk) trivial (of_decide_eq_true (by first | (with_reducible assumption) | assumption)) (Nat.le_trans (Nat.mul_le_mul_right _ (of_decide_eq_true (by first | (with_reducible assumption) | assumption) : ji2.toNat ≤ 281474976710656)) (by omega)) (Below.refl _ _) (Nat.le_refl _) ?_; intro v106 w14 ho15 hb hg_ hnew_; clear hg_ hnew_; (first | rw [← Ny105.out] at ho15 | (simp only [Int.reduceToNat] at ho15; rw [← Ny105.out] at ho15)); have n0_ := Aside0.mk (Kd.S_elder' (by (with_reducible repeat (first | apply Kd.S_alloc | apply Kd.S_drewN | apply Kd.S_drew)); exact HO_4.out) (Kd.R_base ho15) hb); have n1_ := Aside0.mk (Kd.R_lower ho15 (below_size (by repeat (first | (with_reducible first | exact HB.out | apply below_alloc | apply pw_below_drewN | apply below_drew1) | exact HB.out)))); have n2_ := Aside0.mk (below_step (by repeat (first | (with_reducible first | exact HB.out | apply below_alloc | apply pw_below_drewN | apply below_drew1) | exact HB.out)) hb); clear HO_4; clear HB; have HO_4 := n0_; have HO107 := n1_; have HB := n2_; clear n0_ n1_ n2_; clear hb ho15; have p13 : 0 ≤ (x14_1 : Int) := of_decide_eq_true (by first | (with_reducible assumption) | assumption); have q13 : (x14_1 : Int) < ((x4_1.length : Int) : Int) := of_decide_eq_true (by first | (with_reducible assumption) | assumption); obtain ⟨go13, co13, eo13, gb13, gl13, cl13, HG13⟩ := Kd.S_form HO_4.out (by omega); (first | cases eo13 | (injection eo13 with ea_ en_ ec_; (first | subst ea_ | (injection ea_ with ea_; subst ea_)); subst ec_; clear en_)); have GB13 := Aside0.mk gb13; have GG13 := Aside0.mk HG13; clear gb13 gl13 HG13; obtain ⟨_, ce13, hcl13, hM13, hcc13, hfr13, _, _⟩ := Kd.S_elem HO_4.out [] (x14_1 : Int) p13 q13; obtain ⟨ve13_0, rfl, ge13_0⟩ := hM13; have hx13_0 := hcc13 0 _ rfl; have hf13_0 := hfr13 0; (try simp only [show ((Kd.slice 4 Kd.bool)).sz = 1 from rfl, Nat.mul_one, Nat.add_zero] at hx13_0); (try simp only [show ((Kd.slice 4 Kd.bool)).sz = 1 from rfl, Nat.mul_one, Nat.add_zero] at hf13_0); clear hcl13 hcc13 hfr13; (try clear hM13); replace p13 := eq_true p13; replace q13 := eq_true q13; have n_ := Aside0.mk (Kd.S_mono (ok' := (fun k_ => some k_ ≠ (v106 : Value).ownBlock)) HO_4.out (fun k_ hk => hk.2)); clear HO_4; have HO_4 := n_; clear n_; have HX16 := Aside0.mk (show Kd.S (Kd.slice 4 Kd.bool) 45 w14 w.heap.size (fun k_ => ((fun _ => True)) k_ ∧ ¬ ((fun k_ => some k_ = (v106 : Value).ownBlock)) k_) (.slice (some ⟨go13, 0, none⟩) x4_1.length co7) x4_1 from (by (with_reducible repeat (first | apply Kd.S_alloc | apply Kd.S_drewN | apply Kd.S_drew)); exact Kd.S_mono HO_4.out (fun k_ hk => ⟨trivial, fun e_ => hk e_⟩))); obtain ⟨oki16, ce16, hcl16, hM16, hcc16, hfr16, hoki16, hH16⟩ := Kd.S_elem HX16.out [] (x14_1 : Int) (of_decide_eq_true (by first | (with_reducible assumption) | assumption)) (by have h_ : (x14_1 : Int) < ((x4_1.length : Int) : Int) := of_decide_eq_true (by first | (with_reducible assumption) | assumption); first | exact h_ | (have e_ := (Kd.S_reads' HO_4.out).1; omega) | simpa using h_); obtain ⟨ve16_0, rfl, ge16_0⟩ := hM16; have HP16 := Kd.S_seg hH16 (of_decide_eq_true (by first | (with_reducible assumption) | assumption)) (by have h_ : (x14_1 : Int) < ((x4_1.length : Int) : Int) := of_decide_eq_true (by first | (with_reducible assumption) | assumption); first | exact h_ | (have e_ := (Kd.S_reads' HO_4.out).1; omega) | simpa using h_) (seg := [v106]) (j := 0) (show 1 ≤ 1 from by decide) (x' := y105) (Kd.M_row (Kd.R_mono (Kd.R_tight rfl (Kd.R_mono (ok' := fun k_ => ((fun _ => True)) k_ ∧ k_ ≠ go13) (Kd.R_apart' (HO107.out) (Kd.S_typed HO_4.out) (by decide)) (fun k_ hk => ⟨trivial, fun e_ => (hk.2) (by rw [e_]; rfl)⟩))) (fun _ h_ => Or.inr (h_)))) (fun _ hk => hk) (fun k_ hk_ => ((Kd.R_mono (ok' := fun k_ => ((fun _ => True)) k_ ∧ k_ ≠ go13) (Kd.R_apart' (HO107.out) (Kd.S_typed HO_4.out) (by decide)) (fun k_ hk => ⟨trivial, fun e_ => (hk.2) (by rw [e_]; rfl)⟩))).1 k_ hk_.symm); have hx16_0 := hcc16 0 _ rfl; (try simp only [show ((Kd.slice 4 Kd.bool)).sz = 1 from rfl, Nat.mul_one, Nat.add_zero] at hx16_0); have hf16_0 := hfr16 0; (try simp only [show ((Kd.slice 4 Kd.bool)).sz = 1 from rfl, Nat.mul_one, Nat.add_zero] at hf16_0); clear hcl16 hcc16 hfr16 hoki16 hH16; (try clear hM16); (try simp only [show ((Kd.slice 4 Kd.bool)).sz = 1 from rfl, Nat.mul_one, Nat.add_zero] at HP16)) | ((with_reducible refine gate_store (t := 45) (p := 21) rfl ?_); refine store_event (t := 45) (p := 21) (v := ?vo_w17) (w1 := (w14.setCell ⟨go13, (x14_1 : Int).toNat, none⟩ (v106))) ?hg ?ho ?hn ?hr ?_; (case ho => rfl); (case hg => rfl); (case hn => rfl); (case hr => first | (go_simp; done) | (go_simp; rfl) | (obtain ⟨Av_, cv_, ev_⟩ := Kd.R_slice HO107.out; subst ev_; first | (go_simp; done) | (go_simp; rfl))); intro w17 hw; have hg : w14.grownBy w17 (some go13) := (by rw [hw]; exact HP16.2); have hp_ : Kd.S (Kd.slice 4 Kd.bool) 45 w17 w.heap.size (fun _ => True) (.slice (some ⟨go13, 0, none⟩) x4_1.length co7) y108 := (by rw [hw, Ny108.out]; exact HP16.1); clear HP16; have n0_ := Aside0.mk (hp_); have n1_ := Aside0.mk ((by rw [hw]; exact below_set (HB.out) GB13.out : Below w.heap.size w w17)); clear HO_4; clear HB; clear HO107; have HO_4 := n0_; have HB := n1_; clear n0_ n1_; clear hg hw hp_))
                    go_loopg [6] k1 (fun kq v6 w' => ∃ (x4_2 : List (List Bool)) (x6_2 : Int), v6 = .int .i64 x6_2 ∧ Aside0 (laws_qrSquare.l1 kq l0 ji2 x4_2 x14_1 x6_2 (y102.length : Int) x14_1 = some r) ∧ Aside0 (kq ≤ k1) ∧ Aside0 (Kd.S (Kd.slice 4 Kd.bool) 45 w' w.heap.size (fun _ => True) (.slice (some ⟨go13, 0, none⟩) x4_1.length co7) x4_2) ∧ Aside0 (Below w.heap.size w w'))
                    case atStart => exact ⟨(y108), (0), (by first | rfl | (simp; done) | (simp [*]; done)), H', ⟨Nat.le_refl _⟩, ⟨by (try simp only [hl4_1]); (with_reducible repeat (first | apply Kd.S_alloc | apply Kd.S_drewN | apply Kd.S_drew)); exact HO_4.out⟩, ⟨by repeat (first | (with_reducible first | exact HB.out | apply below_alloc | apply pw_below_drewN | apply below_drew1) | exact HB.out)⟩⟩
                    case round =>
                      clear H'
                      try clear c1
                      try clear p1
                      try clear q1
                      try clear hx1
                      try clear hf1
                      try clear p2
                      try clear c3
                      try clear c3b0
                      try clear c3b1
                      try clear c4
                      try clear c4b0
                      try clear c4b1
                      try clear c8
                      try clear c8b0
                      try clear c9
                      try clear c9b0
                      try clear c9b1
                      try clear c10
                      try clear c10b0
                      try clear c10b1
                      try clear c11
                      try clear c11b0
                      try clear c12
                      try clear c12b0
                      try clear c13
                      try clear p13
                      try clear q13
                      try clear hx13
                      try clear hf13
                      try clear c16
                      try clear hx16
                      try clear hf16
                      try clear hx13_0
                      try clear hx16_0
                      try clear p13
                      try clear p2
                      try clear q13
                      obtain ⟨x4_2, x6_2, rfl, HA, HK2, HO_4, HB⟩ := hrel
                      have hl4_2 := (Kd.S_reads' HO_4.out).1
                      rw [hl4_2] at HO_4
                      (try simp only [hl4_2])
                      cases gk with
                      | zero => exact absurd HA.out (by simp [laws_qrSquare.l1])
                      | succ k2 =>
                        have H := HA.out
                        clear HA
                        simp only [laws_qrSquare.l1] at H
                        by_cases c18 : x6_2 < ji2
                        · rw [if_pos c18] at H
                          have c18b0 : decide (x6_2 < ji2) = true := decide_eq_true c18
                          clear c18
                          by_cases c19 : 0 ≤ x14_1
                          · rw [if_pos c19] at H
                            have c19b0 : decide (0 ≤ x14_1) = true := decide_eq_true c19
                            clear c19
                            by_cases c20 : x14_1 < (l0.length : Int)
                            · rw [if_pos c20] at H
                              have c20b0 : decide (x14_1 < (l0.length : Int)) = true := decide_eq_true c20
                              clear c20
                              by_cases c21 : x6_2 < ((rd_L1 l0 x14_1).length : Int)
                              · rw [if_pos c21] at H
                                have c21b0 : decide (x6_2 < ((rd_L1 l0 x14_1).length : Int)) = true := decide_eq_true c21
                                clear c21
                                by_cases c22 : x14_1 < (x4_2.length : Int)
                                · rw [if_pos c22] at H
                                  have c22b0 : decide (x14_1 < (x4_2.length : Int)) = true := decide_eq_true c22
                                  clear c22
                                  by_cases c23 : 0 ≤ x6_2
                                  · rw [if_pos c23] at H
                                    have c23b0 : decide (0 ≤ x6_2) = true := decide_eq_true c23
                                    clear c23
                                    by_cases c24 : x6_2 < ((rd_L1 x4_2 x14_1).length : Int)
                                    · rw [if_pos c24] at H
                                      have c24b0 : decide (x6_2 < ((rd_L1 x4_2 x14_1).length : Int)) = true := decide_eq_true c24
                                      clear c24
                                      obtain ⟨y113, hy113⟩ : ∃ y_ : List Bool, y_ = ((rd_L1 x4_2 x14_1).set (x6_2 : Int).toNat (rdOf false (rd_L1 l0 x14_1) x6_2)) := ⟨_, rfl⟩
                                      replace H : (laws_qrSquare.l1 k2 l0 ji2 (x4_2.set (x14_1 : Int).toNat y113) x14_1 (wrap64 (x6_2 + 1)) (y102.length : Int) x14_1) = some r := by first | (rw [hy113]; with_reducible exact H) | (have H2_ := (Option.bind_some _ _).symm.trans H; rw [hy113]; with_reducible exact H2_) | (have H2_ := (Option.bind_some _ _).symm.trans H; with_reducible exact H2_) | with_reducible exact H | (rw [hy113]; exact H) | exact H
                                      have Ny113 := Aside0.mk hy113
                                      clear hy113
                                      obtain ⟨y115, hy115⟩ : ∃ y_ : List (List Bool), y_ = (x4_2.set (x14_1 : Int).toNat y113) := ⟨_, rfl⟩
                                      replace H : (laws_qrSquare.l1 k2 l0 ji2 y115 x14_1 (wrap64 (x6_2 + 1)) (y102.length : Int) x14_1) = some r := by first | (rw [hy115]; with_reducible exact H) | (have H2_ := (Option.bind_some _ _).symm.trans H; rw [hy115]; with_reducible exact H2_) | (have H2_ := (Option.bind_some _ _).symm.trans H; with_reducible exact H2_) | with_reducible exact H | (rw [hy115]; exact H) | exact H
                                      have Ny115 := Aside0.mk hy115
                                      clear hy115
                                      have H' := Aside0.mk H
                                      clear H
                                      have p109 : 0 ≤ (x14_1 : Int) := of_decide_eq_true (by first | (with_reducible assumption) | assumption)
                                      have q109 : x14_1 < (l0.length : Int) := of_decide_eq_true (by first | (with_reducible assumption) | assumption)
                                      obtain ⟨ad109, A109_0, c109_0, e109, hx109_0, hl109_0, hi109_0⟩ := at_L1 HR0.out x14_1 p109 q109
                                      cases e109
                                      replace hx109_0 := (HB.out.cell (World.block_lt_of_cell? w _ hx109_0)).trans hx109_0
                                      have HR109_0 := Aside0.mk hi109_0
                                      have HC109_0 := Aside0.mk hl109_0
                                      clear hi109_0 hl109_0
                                      replace p109 := eq_true p109
                                      replace q109 := eq_true q109
                                      try go_wp2
                                      have n0_ := Aside0.mk (Kd.S_drew HO_4.out)
                                      have n1_ := Aside0.mk (below_drew1 HB.out)
                                      clear HO_4
                                      clear HB
                                      have HO_4 := n0_
                                      have HB := n1_
                                      clear n0_ n1_
                                      have p110 : 0 ≤ (x14_1 : Int) := of_decide_eq_true (by first | (with_reducible assumption) | assumption)
                                      have q110 : x14_1 < (x4_2.length : Int) := of_decide_eq_true (by first | (with_reducible assumption) | assumption)
                                      obtain ⟨ad110, A110_0, c110_0, e110, hx110_0, hl110_0, hi110_0⟩ := at_L1 (Kd.S_reads' HO_4.out).2.2 x14_1 p110 q110
                                      obtain rfl : (⟨go13, 0, none⟩ : Addr) = ad110 := (by injection e110)
                                      obtain ⟨ce110, hce110, hMe110, hcc110⟩ := Kd.S_get HO_4.out [] x14_1 p110 (by first | exact q110 | exact of_decide_eq_true (by first | (with_reducible assumption) | assumption) | (have e_ := (Kd.S_reads' HO_4.out).1; omega))
                                      obtain ⟨ve110_0, rfl, ge110_0⟩ := hMe110
                                      have hv110_0 := hcc110 0 _ rfl
                                      rw [Nat.add_zero, show ((Kd.slice 4 Kd.bool)).sz = 1 from rfl, Nat.mul_one] at hv110_0
                                      replace hv110_0 := Option.some.inj (hv110_0.symm.trans hx110_0)
                                      rw [hv110_0] at ge110_0
                                      have HL110_0 := Aside0.mk (show Kd.R Kd.bool 4 _ _ _ _ (rd_L1 x4_2 x14_1) from ge110_0)
                                      clear hv110_0 ge110_0
                                      have HX110_0 := Aside0.mk hx110_0
                                      clear hcc110 hce110
                                      (first | simp only [add_plain] at hx110_0 | simp only [add_at] at hx110_0 | simp only [Addr.add, Nat.zero_add] at hx110_0 | skip)
                                      have HR110_0 := Aside0.mk hi110_0
                                      have HC110_0 := Aside0.mk hl110_0
                                      clear hi110_0 hl110_0
                                      replace p110 := eq_true p110
                                      replace q110 := eq_true q110
                                      have p111 : 0 ≤ (x14_1 : Int) := of_decide_eq_true (by first | (with_reducible assumption) | assumption)
                                      have q111 : x14_1 < (l0.length : Int) := of_decide_eq_true (by first | (with_reducible assumption) | assumption)
                                      obtain ⟨ad111, A111_0, c111_0, e111, hx111_0, hl111_0, hi111_0⟩ := at_L1 HR0.out x14_1 p111 q111
                                      have hw111_0 := hx111_0
                                      obtain rfl : ad109 = ad111 := (by injection e111)
                                      replace hx111_0 := (HB.out.cell (World.block_lt_of_cell? w _ hx111_0)).trans hx111_0
                                      have HR111_0 := Aside0.mk hi111_0
                                      have HC111_0 := Aside0.mk hl111_0
                                      clear hi111_0 hl111_0
                                      replace p111 := eq_true p111
                                      replace q111 := eq_true q111
                                      have p112 : 0 ≤ (x6_2 : Int) := of_decide_eq_true (by first | (with_reducible assumption) | assumption)
                                      have q112 : x6_2 < ((rd_L1 l0 x14_1).length : Int) := of_decide_eq_true (by first | (with_reducible assumption) | assumption)
                                      obtain ⟨ad112, e112, hx112_0⟩ := Kd.at_bool HR111_0.out x6_2 p112 q112
                                      have hw112_0 := hx112_0
                                      cases e112
                                      replace hx112_0 := (HB.out.cell (World.block_lt_of_cell? w _ hx112_0)).trans hx112_0
                                      replace p112 := eq_true p112
                                      replace q112 := eq_true q112
                                      have p25 : 0 ≤ (x6_2 : Int) := of_decide_eq_true (by first | (with_reducible assumption) | assumption)
                                      have q25 : (x6_2 : Int) < (((rd_L1 x4_2 x14_1).length : Int) : Int) := of_decide_eq_true (by first | (with_reducible assumption) | assumption)
                                      obtain ⟨go25, co25, eo25, gb25, gl25, cl25, HG25⟩ := Kd.R_form HL110_0.out (by omega)
                                      (first | cases eo25 | (injection eo25 with ea_ en_ ec_; (first | subst ea_ | (injection ea_ with ea_; subst ea_)); subst ec_; clear en_))
                                      have GB25 := Aside0.mk gb25
                                      have GG25 := Aside0.mk HG25
                                      clear gb25 gl25 HG25
                                      obtain ⟨hx25_0, hf25_0⟩ := Kd.R_celln false HL110_0.out (x6_2 : Int) p25 q25
                                      replace p25 := eq_true p25
                                      replace q25 := eq_true q25
                                      have hq27 : (x14_1 : Int) < (x4_2.length : Int) := (by have h_ : (x14_1 : Int) < ((x4_2.length : Int) : Int) := of_decide_eq_true (by first | (with_reducible assumption) | assumption); first | exact h_ | (have e_ := (Kd.S_reads' HO_4.out).1; omega) | simpa only [List.length_set, List.length_set] using h_)
                                      obtain ⟨oki27, ce27, hcl27, hM27, hcc27, hok27, hbk27⟩ := Kd.S_borrow HO_4.out [] (x14_1 : Int) (of_decide_eq_true (by first | (with_reducible assumption) | assumption)) hq27
                                      obtain ⟨ve27_0, rfl, ge27_0⟩ := hM27
                                      have hv27 := hcc27 0 _ rfl
                                      rw [Nat.add_zero, show ((Kd.slice 4 Kd.bool)).sz = 1 from rfl, Nat.mul_one] at hv27
                                      replace hv27 := Option.some.inj (hv27.symm.trans HX110_0.out)
                                      subst hv27
                                      clear hcc27 hcl27
                                      replace ge27_0 := (show Kd.R Kd.bool 4 _ _ _ _ (rd_L1 x4_2 x14_1) from ge27_0)
                                      have HP27 := Kd.R_putg ge27_0 (x6_2 : Int) (rdOf false (rd_L1 l0 x14_1) x6_2)
                                      rw [← Ny113.out] at HP27
                                      have HS27 := hbk27 HP27.2 (fun k_ e_ => by injection e_ with e_; subst e_; exact ge27_0.1 _ rfl) (x' := y113) (Kd.M_row HP27.1)
                                      rw [← Ny115.out] at HS27
                                      have HQ27 := Aside0.mk HS27
                                      clear HP27 HS27 hbk27 hok27
                                      refine start_ (n := 14) (S := fun w' => w'.cell? ⟨go13, (x14_1).toNat, none⟩ = some (.slice (some ⟨go25, 0, none⟩) (rd_L1 x4_2 x14_1).length c110_0) ∧ w'.cell? (ad109.add (x14_1).toNat) = some (.slice (some ad112) (rd_L1 l0 x14_1).length c111_0) ∧ w'.cell? (ad112.add (x6_2).toNat) = some (.bool (rdOf false (rd_L1 l0 x14_1) x6_2))) (ds := [13]) #[false, false, false, false, false, false, false, false, false, false, false, false, false, false] (by kernel_rfl) rfl rfl ⟨hx110_0, ((HB.out.cell (World.block_lt_of_cell? w _ hw111_0)).trans hw111_0), ((HB.out.cell (World.block_lt_of_cell? w _ hw112_0)).trans hw112_0)⟩ (fun hHeld => ?_); refine with_tabW laws_qrSquare.tab10 laws_qrSquare.bits10 (fun HT_ HW_ => ?_)
                                      generalize wr.drew = w26 at HO_4 HB GG25 HL110_0 HQ27 HR110_0 HR111_0 HX110_0 hf25_0 hx110_0 hx111_0 hx112_0 hx25_0 hHeld ⊢
                                      refine pure_ (i := 0) (N := some 36) (v := ?_) (a' := ?_) #[true, false, false, false, false, false, false, false, false, false, false, false, false, false] rfl rfl (any_of HT_.out (by kernel_rfl)) (fun _ _ _ h => h) (Or.inl ⟨by rfl, ?_⟩) ?_ ?_
                                      rotate_left
                                      · intro w'
                                        go_simp
                                        with_reducible rfl
                                      rotate_left
                                      · simp only [Act.put, List.setIfInBounds_toArray, List.set_cons_zero, List.set_cons_succ, i64_w, i32_w]
                                        rfl
                                      refine pure_ (i := 1) (N := some 37) (v := ?_) (a' := ?_) #[true, true, false, false, false, false, false, false, false, false, false, false, false, false] rfl rfl (any_of HT_.out (by kernel_rfl)) (fun _ _ _ h => h) (Or.inl ⟨by rfl, ?_⟩) ?_ ?_
                                      rotate_left
                                      · intro w'
                                        go_simp
                                        with_reducible rfl
                                      rotate_left
                                      · simp only [Act.put, List.setIfInBounds_toArray, List.set_cons_zero, List.set_cons_succ, i64_w, i32_w]
                                        rfl
                                      refine pure_ (i := 2) (N := some 38) (v := ?_) (a' := ?_) #[true, true, true, false, false, false, false, false, false, false, false, false, false, false] rfl rfl (any_of HT_.out (by kernel_rfl)) (fun _ _ _ h => h) (Or.inl ⟨by rfl, ?_⟩) ?_ ?_
                                      rotate_left
                                      · intro w'
                                        go_simp
                                        with_reducible rfl
                                      rotate_left
                                      · simp only [Act.put, List.setIfInBounds_toArray, List.set_cons_zero, List.set_cons_succ, i64_w, i32_w]
                                        rfl
                                      refine pure_ (i := 4) (N := some 40) (v := ?_) (a' := ?_) #[true, true, true, false, true, false, false, false, false, false, false, false, false, false] rfl rfl (any_of HT_.out (by kernel_rfl)) (fun _ _ _ h => h) (Or.inl ⟨by rfl, ?_⟩) ?_ ?_
                                      rotate_left
                                      · intro w'
                                        go_simp
                                        with_reducible rfl
                                      rotate_left
                                      · simp only [Act.put, List.setIfInBounds_toArray, List.set_cons_zero, List.set_cons_succ, i64_w, i32_w]
                                        rfl
                                      refine pure_ (i := 5) (N := some 41) (v := ?_) (a' := ?_) #[true, true, true, false, true, true, false, false, false, false, false, false, false, false] rfl rfl (any_of HT_.out (by kernel_rfl)) (fun _ _ _ h => h) (Or.inl ⟨by rfl, ?_⟩) ?_ ?_
                                      rotate_left
                                      · intro w'
                                        go_simp
                                        with_reducible rfl
                                      rotate_left
                                      · simp only [Act.put, List.setIfInBounds_toArray, List.set_cons_zero, List.set_cons_succ, i64_w, i32_w]
                                        rfl
                                      refine pure_ (i := 6) (N := some 42) (v := ?_) (a' := ?_) #[true, true, true, false, true, true, true, false, false, false, false, false, false, false] rfl rfl (any_of HT_.out (by kernel_rfl)) (fun _ _ _ h => h) (Or.inl ⟨by rfl, ?_⟩) ?_ ?_
                                      rotate_left
                                      · intro w'
                                        go_simp
                                        with_reducible rfl
                                      rotate_left
                                      · simp only [Act.put, List.setIfInBounds_toArray, List.set_cons_zero, List.set_cons_succ, i64_w, i32_w]
                                        rfl
                                      refine pure_ (i := 7) (N := some 43) (v := ?_) (a' := ?_) #[true, true, true, false, true, true, true, true, false, false, false, false, false, false] rfl rfl (any_of HT_.out (by kernel_rfl)) (fun _ _ _ h => h) (Or.inl ⟨by rfl, ?_⟩) ?_ ?_
                                      rotate_left
                                      · intro w'
                                        go_simp
                                        with_reducible rfl
                                      rotate_left
                                      · simp only [Act.put, List.setIfInBounds_toArray, List.set_cons_zero, List.set_cons_succ, i64_w, i32_w]
                                        rfl
                                      refine pure_ (i := 9) (N := some 45) (v := ?_) (a' := ?_) #[true, true, true, false, true, true, true, true, false, true, false, false, false, false] rfl rfl (any_of HT_.out (by kernel_rfl)) (fun _ _ _ h => h) (Or.inl ⟨by rfl, ?_⟩) ?_ ?_
                                      rotate_left
                                      · intro w'
                                        go_simp
                                        with_reducible rfl
                                      rotate_left
                                      · simp only [Act.put, List.setIfInBounds_toArray, List.set_cons_zero, List.set_cons_succ, i64_w, i32_w]
                                        rfl
                                      refine take_ (i := 3) (N := some 39) (v := ?_) (a' := ?_) #[true, true, true, true, true, true, true, true, false, true, false, false, false, false] rfl rfl (take_ofW HT_.out HW_.out (by kernel_rfl)) (fun _ _ _ h => h) (Or.inl ⟨by rfl, ?_⟩) hHeld ?_ ?_
                                      rotate_left
                                      · rintro w' ⟨s0, s1, s2⟩
                                        go_simp
                                        with_reducible rfl
                                      rotate_left
                                      · simp only [Act.put, List.setIfInBounds_toArray, List.set_cons_zero, List.set_cons_succ, i64_w, i32_w]
                                        rfl
                                      refine take_ (i := 8) (N := some 44) (v := ?_) (a' := ?_) #[true, true, true, true, true, true, true, true, true, true, false, false, false, false] rfl rfl (take_ofW HT_.out HW_.out (by kernel_rfl)) (fun _ _ _ h => h) (Or.inl ⟨by rfl, ?_⟩) hHeld ?_ ?_
                                      rotate_left
                                      · rintro w' ⟨s0, s1, s2⟩
                                        go_simp
                                        with_reducible rfl
                                      rotate_left
                                      · simp only [Act.put, List.setIfInBounds_toArray, List.set_cons_zero, List.set_cons_succ, i64_w, i32_w]
                                        rfl
                                      refine pure_ (i := 10) (N := some 46) (v := ?_) (a' := ?_) #[true, true, true, true, true, true, true, true, true, true, true, false, false, false] rfl rfl (any_of HT_.out (by kernel_rfl)) (fun _ _ _ h => h) (Or.inl ⟨by rfl, ?_⟩) ?_ ?_
                                      rotate_left
                                      · intro w'
                                        go_simp
                                        with_reducible rfl
                                      rotate_left
                                      · simp only [Act.put, List.setIfInBounds_toArray, List.set_cons_zero, List.set_cons_succ, i64_w, i32_w]
                                        rfl
                                      refine take_ (i := 11) (N := some 47) (v := ?_) (a' := ?_) #[true, true, true, true, true, true, true, true, true, true, true, true, false, false] rfl rfl (take_ofW HT_.out HW_.out (by kernel_rfl)) (fun _ _ _ h => h) (Or.inl ⟨by rfl, ?_⟩) hHeld ?_ ?_
                                      rotate_left
                                      · rintro w' ⟨s0, s1, s2⟩
                                        go_simp
                                        with_reducible rfl
                                      rotate_left
                                      · simp only [Act.put, List.setIfInBounds_toArray, List.set_cons_zero, List.set_cons_succ, i64_w, i32_w]
                                        rfl
                                      refine pure_ (i := 12) (N := some 48) (v := ?_) (a' := ?_) #[true, true, true, true, true, true, true, true, true, true, true, true, true, false] rfl rfl (any_of HT_.out (by kernel_rfl)) (fun _ _ _ h => h) (Or.inl ⟨by rfl, ?_⟩) ?_ ?_
                                      rotate_left
                                      · intro w'
                                        go_simp
                                        with_reducible rfl
                                      rotate_left
                                      · simp only [Act.put, List.setIfInBounds_toArray, List.set_cons_zero, List.set_cons_succ, i64_w, i32_w]
                                        rfl
                                      refine last_ (i := 13) (N := none) #[true, true, true, true, true, true, true, true, true, true, true, true, true, true] rfl rfl (one_of HT_.out (by kernel_rfl)) (by decide) (fun K hK => ?_)
                                      refine skip_ (w1 := ?_) (by rfl) rfl ?_ ?_
                                      rotate_left
                                      · go_simp
                                        rfl
                                      refine hK.out _ _ ?_
                                      clear hK K
                                      refine done_ (done_of HT_.out (by kernel_rfl)) ?_
                                      try go_wp2
                                      (try simp only [← hl4_2])
                                      go_roundg k2
                                      case measure => have := HK1.out; have := HK2.out; omega
                                      case rel => exact ⟨(y115), (wrap64 (x6_2 + 1)), (by first | rfl | (simp; done) | (simp [*]; done)), H', ⟨by have := HK1.out; have := HK2.out; omega⟩, ⟨by (try simp only [hl4_1]); (try simp only [hl4_2]); (with_reducible repeat (first | apply Kd.S_alloc | apply Kd.S_drewN | apply Kd.S_drew)); exact HQ27.out⟩, ⟨by repeat (first | (with_reducible first | exact HB.out | apply below_alloc | apply pw_below_drewN | apply below_drew1 | refine below_set ?_ GB25.out) | exact HB.out)⟩⟩
                                    · rw [if_neg c24] at H
                                      exact absurd H (by simp)
                                  · rw [if_neg c23] at H
                                    exact absurd H (by simp)
                                · rw [if_neg c22] at H
                                  exact absurd H (by simp)
                              · rw [if_neg c21] at H
                                have c21b0 : decide (x6_2 < ((rd_L1 l0 x14_1).length : Int)) = false := decide_eq_false c21
                                clear c21
                                have H' := Aside0.mk H
                                clear H
                                have p109 : 0 ≤ (x14_1 : Int) := of_decide_eq_true (by first | (with_reducible assumption) | assumption)
                                have q109 : x14_1 < (l0.length : Int) := of_decide_eq_true (by first | (with_reducible assumption) | assumption)
                                obtain ⟨ad109, A109_0, c109_0, e109, hx109_0, hl109_0, hi109_0⟩ := at_L1 HR0.out x14_1 p109 q109
                                cases e109
                                replace hx109_0 := (HB.out.cell (World.block_lt_of_cell? w _ hx109_0)).trans hx109_0
                                have HR109_0 := Aside0.mk hi109_0
                                have HC109_0 := Aside0.mk hl109_0
                                clear hi109_0 hl109_0
                                replace p109 := eq_true p109
                                replace q109 := eq_true q109
                                go_wp2
                                (try simp only [← hl4_1, ← hl4_2])
                                go_roundg k2
                                case measure => have := HK1.out; have := HK2.out; omega
                                case rel => exact ⟨(x4_2), (wrap64 (x14_1 + 1)), (by first | rfl | (simp; done) | (simp [*]; done)), H', ⟨by have := HK1.out; have := HK2.out; omega⟩, ⟨by (try simp only [hl4_1]); (try simp only [hl4_2]); (with_reducible repeat (first | apply Kd.S_alloc | apply Kd.S_drewN | apply Kd.S_drew)); exact HO_4.out⟩, ⟨by repeat (first | (with_reducible first | exact HB.out | apply below_alloc | apply pw_below_drewN | apply below_drew1) | exact HB.out)⟩⟩
                            · rw [if_neg c20] at H
                              exact absurd H (by simp)
                          · rw [if_neg c19] at H
                            exact absurd H (by simp)
                        · rw [if_neg c18] at H
                          have c18b0 : decide (x6_2 < ji2) = false := decide_eq_false c18
                          clear c18
                          have H' := Aside0.mk H
                          clear H
                          go_wp2
                          (try simp only [← hl4_1, ← hl4_2])
                          go_roundg k2
                          case measure => have := HK1.out; have := HK2.out; omega
                          case rel => exact ⟨(x4_2), (wrap64 (x14_1 + 1)), (by first | rfl | (simp; done) | (simp [*]; done)), H', ⟨by have := HK1.out; have := HK2.out; omega⟩, ⟨by (try simp only [hl4_1]); (try simp only [hl4_2]); (with_reducible repeat (first | apply Kd.S_alloc | apply Kd.S_drewN | apply Kd.S_drew)); exact HO_4.out⟩, ⟨by repeat (first | (with_reducible first | exact HB.out | apply below_alloc | apply pw_below_drewN | apply below_drew1) | exact HB.out)⟩⟩
                  · rw [if_neg c12] at H
                    exact absurd H (by simp)
                · rw [if_neg c11] at H
                  exact absurd H (by simp)
              · rw [if_neg c10] at H
                exact absurd H (by simp)
            · rw [if_neg c9] at H
              exact absurd H (by simp)
          · rw [if_neg c8] at H
            have c8b0 : decide (x14_1 < (y102.length : Int)) = false := decide_eq_false c8
            have c8b9 : decide (x14_1 < (x4_1.length : Int)) = false := by first | assumption | (have e_ := hl4_1; first | (rw [e_]; exact c8b0) | (rw [← e_]; exact c8b0) | (have c_ := of_decide_eq_false c8b0; exact decide_eq_false (by omega)))
            clear c8
            obtain rfl := Option.some.inj H
            go_wp2
            go_ret
            exact ⟨_, by first | rfl | (simp [errW_none, errW_some] <;> rfl) | (simp only [← hji2]; first | rfl | (simp [errW_none, errW_some] <;> rfl)) | (simp [*, errW_none, errW_some] <;> rfl), by (with_reducible repeat (first | apply Kd.S_alloc | apply Kd.S_drewN | apply Kd.S_drew)); exact HO_4.out, by repeat (first | (with_reducible first | exact HB.out | apply below_alloc | apply pw_below_drewN | apply below_drew1) | exact HB.out)⟩
    · rw [if_neg c4] at H
      exact absurd H (by simp)
  · rw [if_neg c3] at H
    exact absurd H (by simp)

/-! ### laws_qrVersion: function 11 -/
def laws_qrVersion.f (a0 : Int) : Option (Int) := some (wrap64 (1 + (Int.tmod (wrap64 (a0)) 40)))
set_option maxHeartbeats 8000000 in
set_option maxRecDepth 100000 in
theorem laws_qrVersion.calls (a0 : Int) (r : Int) (w : World) (h : laws_qrVersion.f a0 = some r) :
    Calls Tryz.prog 11 #[.int .u8 a0] w fun e w' => e = .returned (.int .i64 r) ∧ Drawn0 w w' := by
  have H : (some (wrap64 (1 + (Int.tmod (wrap64 (a0)) 40)))) = some r := h
  clear h
  obtain rfl := Option.some.inj H
  go_enter Tryz.func11, Tryz.ntmps11
  go_wp2
  go_ret
  exact ⟨by first | rfl | (simp; done) | (simp [*]; done), by repeat (first | exact Drawn0.refl _ | apply Drawn0.step)⟩

-- NOT PRINTED: function 70 (common_DecoderResult_GetByteSegments)

-- NOT PRINTED: function 71 (common_DecoderResult_GetText)

-- NOT PRINTED: function 72 (common_DecoderResult_GetRawBytes)

-- NOT PRINTED: function 73 (common_DecoderResult_GetECLevel)

-- NOT PRINTED: function 74 (common_DecoderResult_GetErrorsCorrected)

-- NOT PRINTED: function 75 (common_DecoderResult_GetStructuredAppendSequenceNumber)

-- NOT PRINTED: function 76 (common_DecoderResult_GetStructuredAppendParity)

-- NOT PRINTED: function 77 (common_DecoderResult_GetSymbologyModifier)

-- NOT PRINTED: function 35 (impl_decoded)

-- NOT PRINTED: function 78 (reedsolomon_NewReedSolomonDecoder)

-- NOT PRINTED: function 103 (errors_New)

-- NOT PRINTED: function 146 (reedsolomon_NewGenericGFPoly)

-- NOT PRINTED: function 124 (reedsolomon_NewGenericGF)

-- NOT PRINTED: function 79 (reedsolomon_GenericGF_QR_CODE_FIELD_256)

-- NOT PRINTED: function 36 (decoder_NewDecoder)

-- NOT PRINTED: function 147 (gozxing_NewBitMatrix)

-- NOT PRINTED: function 148 (gozxing_BitMatrix_Set)

-- NOT PRINTED: function 125 (gozxing_ParseBoolMapToBitMatrix)

/-- A state of type 224 at block g of W; what its slices lead to came in by w0. -/
def IsS224 (w0 W : World) (g : Nat) (f0 : Int) (f1 : List (S221)) : Prop := ∃ A1 c1, W.heap[g]? = some (.cells #[.int .i64 f0, .slice A1 f1.length c1] 224 (0, 0)) ∧ w0.heap.size ≤ g ∧ Kd.C k221 w0 A1 f1.length f1
theorem IsS224.grown {w0 W : World} {g : Nat} {f0 : Int} {f1 : List (S221)} {W1 : World} {row : Option Nat} (h : IsS224 w0 W g f0 f1) (hw : W.grownBy W1 row) (hne : some g ≠ row) : IsS224 w0 W1 g f0 f1 := by
  obtain ⟨A1, c1, hb, hg, hr1⟩ := h
  exact ⟨A1, c1, blk_grown hb hw hne, hg, hr1⟩
theorem IsS224.own_neN {w0 W : World} {g : Nat} {f0 : Int} {f1 : List (S221)} {α : Type} {d : Kd α} {e : Nat} {base : Nat} {ok : Nat → Prop} {v : Value} {xs : List α} (h : IsS224 w0 W g f0 f1) (ho : Kd.N d e W base ok v xs) (ht : e ≠ 224) : some g ≠ v.ownBlock := by
  obtain ⟨A1, c1, hb, hg, hr1⟩ := h
  exact Kd.N_ne ho hb ht
theorem IsS224.fresh {w0 W : World} {g : Nat} {f0 : Int} {f1 : List (S221)} (h : IsS224 w0 W g f0 f1) : ∀ k, W.heap.size ≤ k → k ≠ g := by
  obtain ⟨A1, c1, hb, hg, hr1⟩ := h
  exact Kd.freshB hb
theorem IsS224.kept {w0 W : World} {g : Nat} {f0 : Int} {f1 : List (S221)} {W1 : World} {S : Nat → Prop} (h : IsS224 w0 W g f0 f1) (hk : Kept W W1 S) (hne : ¬ S g) : IsS224 w0 W1 g f0 f1 := by
  obtain ⟨A1, c1, hb, hg, hr1⟩ := h
  exact ⟨A1, c1, blk_kept hb hk hne, hg, hr1⟩
theorem IsS224.below {w0 W : World} {g : Nat} {f0 : Int} {f1 : List (S221)} {W1 : World} (h : IsS224 w0 W g f0 f1) (hw : Below W.heap.size W W1) : IsS224 w0 W1 g f0 f1 := h.grown (grown_of_below hw none) (by simp)
theorem IsS224.alloc {w0 W : World} {g : Nat} {f0 : Int} {f1 : List (S221)} (h : IsS224 w0 W g f0 f1) (o : Obj) : IsS224 w0 (W.alloc o) g f0 f1 := h.below (below_alloc (Below.refl _ _) o)
theorem IsS224.drewN {w0 W : World} {g : Nat} {f0 : Int} {f1 : List (S221)} (h : IsS224 w0 W g f0 f1) (m : Nat) : IsS224 w0 (W.drewN m) g f0 f1 := h
theorem IsS224.drew {w0 W : World} {g : Nat} {f0 : Int} {f1 : List (S221)} (h : IsS224 w0 W g f0 f1) : IsS224 w0 W.drew g f0 f1 := h
theorem IsS224.at_ {w0 W : World} {g : Nat} {f0 : Int} {f1 : List (S221)} {w' : World} {m : Nat} (hq : W.drewN m = w') (h : IsS224 w0 W g f0 f1) : IsS224 w0 w' g f0 f1 := by subst hq; exact IsS224.drewN h m
theorem IsS224.apart {w0 W : World} {g : Nat} {f0 : Int} {f1 : List (S221)} {α : Type} {d : Kd α} {e : Nat} {base : Nat} {ok : Nat → Prop} {v : Value} {xs : List α} (h : IsS224 w0 W g f0 f1) (ho : d.R e W base ok v xs) (ht : ∀ q, q ∈ e :: d.E → q ≠ 224) : d.R e W base (fun k => ok k ∧ k ≠ g) v xs := by
  obtain ⟨A1, c1, hb, hg, hr1⟩ := h
  exact Kd.R_types ho hb ht
theorem IsS224.own_ne {w0 W : World} {g : Nat} {f0 : Int} {f1 : List (S221)} {α : Type} {d : Kd α} {e : Nat} {base : Nat} {ok : Nat → Prop} {v : Value} {xs : List α} (h : IsS224 w0 W g f0 f1) (ho : d.R e W base ok v xs) (ht : e ≠ 224) : some g ≠ v.ownBlock := by
  obtain ⟨A1, c1, hb, hg, hr1⟩ := h
  exact Kd.R_ne ho hb ht
theorem IsS224.apartQ {w0 W : World} {g : Nat} {f0 : Int} {f1 : List (S221)} {α : Type} {d : Kd α} {e : Nat} {base : Nat} {ok : Nat → Prop} {v : Value} {xs : List α} (h : IsS224 w0 W g f0 f1) (ho : d.Q e W base ok v xs) (ht : ∀ q, q ∈ e :: d.E → q ≠ 224) : d.Q e W base (fun k => ok k ∧ k ≠ g) v xs := by
  obtain ⟨A1, c1, hb, hg, hr1⟩ := h
  exact Kd.Q_types ho hb ht
theorem IsS224.own_neQ {w0 W : World} {g : Nat} {f0 : Int} {f1 : List (S221)} {α : Type} {d : Kd α} {e : Nat} {base : Nat} {ok : Nat → Prop} {v : Value} {xs : List α} (h : IsS224 w0 W g f0 f1) (ho : d.Q e W base ok v xs) (ht : e ≠ 224) : some g ≠ v.ownBlock := by
  obtain ⟨A1, c1, hb, hg, hr1⟩ := h
  exact Kd.Q_ne ho hb ht
theorem IsS224.apartS {w0 W : World} {g : Nat} {f0 : Int} {f1 : List (S221)} {α : Type} {d : Kd α} {e : Nat} {base : Nat} {ok : Nat → Prop} {v : Value} {xs : List α} (h : IsS224 w0 W g f0 f1) (ho : d.S e W base ok v xs) (ht : ∀ q, q ∈ e :: d.E → q ≠ 224) : d.S e W base (fun k => ok k ∧ k ≠ g) v xs := by
  obtain ⟨A1, c1, hb, hg, hr1⟩ := h
  exact Kd.S_types ho hb ht
theorem IsS224.own_neS {w0 W : World} {g : Nat} {f0 : Int} {f1 : List (S221)} {α : Type} {d : Kd α} {e : Nat} {base : Nat} {ok : Nat → Prop} {v : Value} {xs : List α} (h : IsS224 w0 W g f0 f1) (ho : d.S e W base ok v xs) (ht : e ≠ 224) : some g ≠ v.ownBlock := by
  obtain ⟨A1, c1, hb, hg, hr1⟩ := h
  exact Kd.S_ne ho hb ht
theorem IsS224.lt {w0 W : World} {g : Nat} {f0 : Int} {f1 : List (S221)} (h : IsS224 w0 W g f0 f1) : g < W.heap.size := by
  obtain ⟨A1, c1, hb, hg, hr1⟩ := h
  exact blk_lt hb
theorem IsS224.ge {w0 W : World} {g : Nat} {f0 : Int} {f1 : List (S221)} (h : IsS224 w0 W g f0 f1) : w0.heap.size ≤ g := by
  obtain ⟨A1, c1, hb, hg, hr1⟩ := h
  exact hg
theorem IsS224.ne_blk {w0 W : World} {g : Nat} {f0 : Int} {f1 : List (S221)} {a : Nat} {cs : Array Value} {t : TypeId} {fr : Nat × Nat} (h : IsS224 w0 W g f0 f1) (hb2 : W.heap[a]? = some (.cells cs t fr)) (ht : t ≠ 224) : g ≠ a := by
  obtain ⟨A1, c1, hb, hg, hr1⟩ := h
  rintro rfl
  rw [hb] at hb2
  injection hb2 with hb2
  injection hb2 with _ ht2
  exact ht ht2.symm
theorem IsS224.far {w0 W : World} {g : Nat} {f0 : Int} {f1 : List (S221)} {p : Addr} (h : IsS224 w0 W g f0 f1) (hne : g ≠ p.block) (u : Value) : IsS224 w0 (W.setCell p u) g f0 f1 := by
  obtain ⟨A1, c1, hb, hg, hr1⟩ := h
  exact ⟨A1, c1, blk_far hb hne u, hg, hr1⟩
theorem cellS224_0 {W : World} {g : Nat} {A1 : Option Addr} {c1 : Nat} {f0 : Int} {f1 : List (S221)} (h : W.heap[g]? = some (.cells #[.int .i64 f0, .slice A1 f1.length c1] 224 (0, 0))) : W.cell? ⟨g, 0, none⟩ = some (.int .i64 f0) := (blk_cell h 0).trans rfl
theorem IsS224.set_0 {w0 W : World} {g : Nat} {f0 : Int} {f1 : List (S221)} (h : IsS224 w0 W g f0 f1) (x : Int) : IsS224 w0 (W.setCell ⟨g, 0, none⟩ (.int .i64 x)) g x f1 := by
  obtain ⟨A1, c1, hb, hg, hr1⟩ := h
  exact ⟨A1, c1, by simpa using blk_set hb 0 (.int .i64 x), hg, hr1⟩
theorem cellS224_1 {W : World} {g : Nat} {A1 : Option Addr} {c1 : Nat} {f0 : Int} {f1 : List (S221)} (h : W.heap[g]? = some (.cells #[.int .i64 f0, .slice A1 f1.length c1] 224 (0, 0))) : W.cell? ⟨g, 1, none⟩ = some (.slice A1 f1.length c1) := (blk_cell h 1).trans rfl
theorem IsS224.new (w0 W : World) (A1 : Option Addr) (c1 : Nat) (f0 : Int) (f1 : List (S221)) (hB : Below w0.heap.size w0 W) (hr1 : Kd.C k221 w0 A1 f1.length f1) : IsS224 w0 (W.alloc (.cells #[.int .i64 f0, .slice A1 f1.length c1] 224)) W.heap.size f0 f1 := ⟨A1, c1, by simpa using heap_alloc_new W _, hB.size, hr1⟩
end Go.Proofs.YtgccjgpdjkhpdaaGreat.F
